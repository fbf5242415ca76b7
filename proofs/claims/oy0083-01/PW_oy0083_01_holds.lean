import PyProof.Rows.All
import Wide.All
import OpenK.AllK
import Wide.FinOn
import KE.KDictIter
import KE.KEqSeq
import KE.KFromBytes
import KE.KMod
import KE.KRevIter
import KE.KSuperObj
import ObjForm.ListNI
import OpenK.KLine
import OpenK.XLed
import PyProof.AssignAttr
import PyProof.FactsAll.range_2
import PyProof.ListCopy
import PyProof.Rows.AttrNodeAny
import PyProof.TupleOfSeq
import Lean
import PySem.Challenge.RW_oy0083_01
set_option Elab.async false
namespace Mine
open PySem PySem.W PyProof.Rows

/-- room under the limits -/
structure Rm (A : Around) (n : Nat) : Prop where
  hd : A.handled = none
  dp : A.depth + n < 1000
  un : A.units + 8 * n < 9000
theorem Rm.le {A : Around} {n m : Nat} (r : Rm A n) (h : m ≤ n := by lia) : Rm A m := ⟨r.hd, by have := r.dp; lia, by have := r.un; lia⟩
theorem Rm.deep {A : Around} {n : Nat} {env : Env} (r : Rm A (n + 1)) : Rm (A.deeper env) n :=
  ⟨r.hd, by have := r.dp; simp only [Around.deeper]; lia, by have := r.un; simp only [Around.deeper]; lia⟩
theorem Rm.room {A : Around} {n : Nat} (r : Rm A n) : A.depth < recursionLimit := by have := r.dp; show _ < 1000; lia
theorem Rm.units {A : Around} {n : Nat} (r : Rm A n) : A.units < cLine := by have := r.un; show _ < 9900; lia

/-- all of h stands in h' -/
noncomputable def Up (h h' : Heap) : Prop := ∀ a o, h.get? a = some o → h'.get? a = some o
theorem Up.refl (h : Heap) : Up h h := fun _ _ e => e
theorem Up.trans {a b c : Heap} (x : Up a b) (y : Up b c) : Up a c := fun _ _ e => y _ _ (x _ _ e)
/-- all of h but at X stands in h' -/
noncomputable def UpBut (X : List Addr) (h h' : Heap) : Prop := ∀ a o, a ∉ X → h.get? a = some o → h'.get? a = some o
theorem Up.but {X : List Addr} {h h' : Heap} (x : Up h h') : UpBut X h h' := fun a o _ e => x a o e

inductive RO where
  | list (vs : List Value)
  | cell (v : Option Value)
  | obj (o : Obj)
noncomputable def RO.At (h : Heap) (a : Addr) : RO → Prop
  | .list vs => h.PlainList a vs.toArray
  | .cell v => h.IsCell a v
  | .obj o => h.get? a = some o
theorem RO.At.live {h : Heap} {a : Addr} {r : RO} (x : RO.At h a r) : ∃ o, h.get? a = some o := by
  cases r with
  | list vs => obtain ⟨n, e⟩ := x; exact ⟨_, e⟩
  | cell v => obtain ⟨o, e, _⟩ := x; exact ⟨o, e⟩
  | obj o => exact ⟨o, x⟩
theorem RO.At.at {h h' : Heap} {a : Addr} {r : RO} (x : RO.At h a r) (e : ∀ o, h.get? a = some o → h'.get? a = some o) : RO.At h' a r := by
  cases r with
  | list vs => exact Heap.PlainList.at x e
  | cell v => obtain ⟨o, ho, r⟩ := x; exact ⟨o, e _ ho, r⟩
  | obj o => exact e _ x

abbrev Vs := List (Str × Option Value)
abbrev Rs := List (Addr × RO)

structure St (c : Heap) (env : Env) (vs : Vs) (R : Rs) (h : Heap) : Prop where
  kp : Up c h
  fn : env.scope.kind = .function
  ns : ∃ m, h.Ns env.locals m ∧ ∀ x v, (x, some v) ∈ vs → m x = some v
  lk : ∀ p ∈ vs, env.kindOf p.1 = some .local ∧ (p.1 == ("__debug__" : Str)) = false
  kn : (vs.map (·.1)).Nodup
  own : ∀ p ∈ R, p.2.At h p.1
  nd : (env.locals :: R.map (·.1)).Nodup
  fr : ∀ a ∈ env.locals :: R.map (·.1), c.get? a = none

section
variable {c h h' : Heap} {env : Env} {vs vs' : Vs} {R R' : Rs} {a : Addr} {r r' : RO}
theorem St.live (S : St c env vs R h) : ∃ o, h.get? env.locals = some o := by
  obtain ⟨m, ⟨o, es, ep, ho, _⟩, _⟩ := S.ns; exact ⟨o, ho⟩
theorem St.grow (S : St c env vs R h) (k : Up h h') : St c env vs R h' where
  kp := S.kp.trans k
  fn := S.fn
  ns := let ⟨m, hn, hm⟩ := S.ns; ⟨m, hn.keeps k, hm⟩
  lk := S.lk
  kn := S.kn
  own := fun p hp => (S.own p hp).at fun o e => k _ o e
  nd := S.nd
  fr := S.fr
/-- one entry of the ledger turned -/
inductive Rep (a : Addr) (r' : RO) : Rs → Rs → Prop
  | head {r t} : Rep a r' ((a, r) :: t) ((a, r') :: t)
  | tail {p t t'} : Rep a r' t t' → Rep a r' (p :: t) (p :: t')
theorem Rep.keys (U : Rep a r' R R') : R'.map (·.1) = R.map (·.1) := by
  induction U with
  | head => rfl
  | tail _ ih => simp only [List.map_cons, ih]
theorem Rep.old (U : Rep a r' R R') : ∃ r, (a, r) ∈ R := by
  induction U with
  | head => exact ⟨_, .head _⟩
  | tail _ ih => obtain ⟨r, h⟩ := ih; exact ⟨r, .tail _ h⟩
theorem Rep.mem (U : Rep a r' R R') (nd : (R.map (·.1)).Nodup) {p : Addr × RO} (hp : p ∈ R') : p = (a, r') ∨ (p ∈ R ∧ p.1 ≠ a) := by
  induction U with
  | head =>
    rcases List.mem_cons.mp hp with rfl | hp
    · exact .inl rfl
    · rw [List.map_cons, List.nodup_cons] at nd
      exact .inr ⟨.tail _ hp, fun e => nd.1 (e ▸ List.mem_map_of_mem (f := (·.1)) hp)⟩
  | tail U ih =>
    rw [List.map_cons, List.nodup_cons] at nd
    rcases List.mem_cons.mp hp with rfl | hp
    · obtain ⟨r, hr⟩ := U.old
      exact .inr ⟨.head _, fun e => nd.1 (by rw [e]; exact List.mem_map_of_mem (f := (·.1)) hr)⟩
    · rcases ih nd.2 hp with rfl | ⟨q1, q2⟩
      · exact .inl rfl
      · exact .inr ⟨.tail _ q1, q2⟩
theorem St.updB (S : St c env vs R h) (U : Rep a r' R R') (hs : UpBut [a] h h') (hr : RO.At h' a r') : St c env vs R' h' where
  kp := fun b o e => by
    have : b ≠ a := fun q => by
      obtain ⟨r, hm⟩ := U.old
      have := S.fr a (.tail _ (List.mem_map_of_mem (f := (·.1)) hm)); rw [← q, e] at this; cases this
    exact hs b o (by simpa using this) (S.kp b o e)
  fn := S.fn
  ns := by
    obtain ⟨m, hn, hm⟩ := S.ns
    refine ⟨m, hn.at' fun o e => hs _ o (fun q => ?_) e, hm⟩
    obtain ⟨r, hr⟩ := U.old
    have := S.nd; rw [List.nodup_cons] at this
    exact this.1 (by rw [List.mem_singleton.mp q]; exact List.mem_map_of_mem (f := (·.1)) hr)
  lk := S.lk
  kn := S.kn
  own := fun p hp => by
    have nd := S.nd; rw [List.nodup_cons] at nd
    rcases U.mem nd.2 hp with rfl | ⟨q1, q2⟩
    · exact hr
    · exact (S.own p q1).at fun o e => hs _ o (by simpa using q2) e
  nd := by rw [U.keys]; exact S.nd
  fr := by rw [U.keys]; exact S.fr
theorem St.upd (S : St c env vs R h) (U : Rep a r' R R') (hs : Heap.SameBut a h h') (hr : RO.At h' a r') : St c env vs R' h' :=
  S.updB U (fun b o n e => by rw [hs.2 b (by simpa using n)]; exact e) hr

/-- one variable turned -/
inductive Put (x : Str) (v : Value) : Vs → Vs → Prop
  | head {u t} : Put x v ((x, u) :: t) ((x, some v) :: t)
  | tail {p t t'} : Put x v t t' → Put x v (p :: t) (p :: t')
section
variable {x : Str} {v : Value}
theorem Put.keys (U : Put x v vs vs') : vs'.map (·.1) = vs.map (·.1) := by
  induction U with
  | head => rfl
  | tail _ ih => simp only [List.map_cons, ih]
theorem Put.old (U : Put x v vs vs') : ∃ u, (x, u) ∈ vs := by
  induction U with
  | head => exact ⟨_, .head _⟩
  | tail _ ih => obtain ⟨r, h⟩ := ih; exact ⟨r, .tail _ h⟩
theorem Put.mem (U : Put x v vs vs') (nd : (vs.map (·.1)).Nodup) {p : Str × Option Value} (hp : p ∈ vs') : p = (x, some v) ∨ (p ∈ vs ∧ p.1 ≠ x) := by
  induction U with
  | head =>
    rcases List.mem_cons.mp hp with rfl | hp
    · exact .inl rfl
    · rw [List.map_cons, List.nodup_cons] at nd
      exact .inr ⟨.tail _ hp, fun e => nd.1 (e ▸ List.mem_map_of_mem (f := (·.1)) hp)⟩
  | tail U ih =>
    rw [List.map_cons, List.nodup_cons] at nd
    rcases List.mem_cons.mp hp with rfl | hp
    · obtain ⟨r, hr⟩ := U.old
      exact .inr ⟨.head _, fun e => nd.1 (by rw [e]; exact List.mem_map_of_mem (f := (·.1)) hr)⟩
    · rcases ih nd.2 hp with rfl | ⟨q1, q2⟩
      · exact .inl rfl
      · exact .inr ⟨.tail _ q1, q2⟩
theorem St.set {m : Str → Option Value} (S : St c env vs R h) (U : Put x v vs vs') (hm : ∀ y u, (y, some u) ∈ vs → m y = some u) (hn : h'.Ns env.locals (fun y => if y = x then some v else m y)) (hs : Heap.SameBut env.locals h h') : St c env vs' R h' where
  kp := fun b o e => by
    have : b ≠ env.locals := fun q => by have := S.fr _ (.head _); rw [← q, e] at this; cases this
    rw [hs.2 b this]; exact S.kp b o e
  fn := S.fn
  ns := ⟨_, hn, fun y u hy => by
    rcases U.mem S.kn hy with e | ⟨q1, q2⟩
    · cases e; simp
    · show (if y = x then some v else m y) = _
      rw [if_neg q2]; exact hm y u q1⟩
  lk := fun p hp => by
    rcases U.mem S.kn hp with rfl | ⟨q1, _⟩
    · obtain ⟨u, hu⟩ := U.old; exact S.lk (x, u) hu
    · exact S.lk p q1
  kn := by rw [U.keys]; exact S.kn
  own := fun p hp => (S.own p hp).at fun o e => by
    have nd := S.nd; rw [List.nodup_cons] at nd
    rw [hs.2 p.1 fun q => nd.1 (by rw [← q]; exact List.mem_map_of_mem (f := (·.1)) hp)]; exact e
  nd := S.nd
  fr := S.fr
end
/-- forget what is known of some variables -/
inductive Less : Vs → Vs → Prop
  | nil : Less [] []
  | keep {p t t'} : Less t t' → Less (p :: t) (p :: t')
  | drop {x u t t'} : Less t t' → Less ((x, u) :: t) ((x, none) :: t')
end
/-- a goal's end given a name: the terms stay small -/
theorem wpAny_gen {α : Type} {M : Model} {A : Around} {m : Sem α} {Q : α → Shared → Prop} {E : Value → Shared → Prop} {s : Shared} (h : ∀ Q' : α → Shared → Prop, (∀ x s, Q x s → Q' x s) → wpAny M A m Q' E s) : wpAny M A m Q E s := h Q fun _ _ q => q
end Mine
namespace Mine
open PySem PySem.W PyProof.Rows

/-- the top's names, as far as they are wanted -/
structure Glb (c : Heap) (nm bn : List (Str × Value)) : Prop where
  ex : ∃ mg mb, c.Ns mainGlobals mg ∧ c.Ns builtinsNs mb ∧ (∀ p ∈ nm, mg p.1 = some p.2) ∧ ∀ p ∈ bn, mg p.1 = none ∧ mb p.1 = some p.2
  lim : c.NoLimit
theorem Glb.up {c c' : Heap} {nm bn : List (Str × Value)} (G : Glb c nm bn) (k : Up c c') : Glb c' nm bn :=
  let ⟨mg, mb, a, b, r⟩ := G.ex; ⟨⟨mg, mb, a.keeps k, b.keeps k, r⟩, G.lim.keeps k⟩

noncomputable def IsDef (c : Heap) (f : Addr) : Stmt → Prop
  | .FunctionDef _ a b _ _ _ sc _ _ _ => ∃ nm qn kV doc pm an cd ct o, c.get? f = some o ∧ o.data = .func (fnOf nm qn a b sc .none kV doc pm an cd ct) ∧ c.CodeRec cd qn
  | _ => False
theorem IsDef.up {c c' : Heap} {f : Addr} {st : Stmt} (D : IsDef c f st) (k : Up c c') : IsDef c' f st := by
  cases st with
  | FunctionDef n a b ds ret tp sc ts bd pos =>
    obtain ⟨nm, qn, kV, doc, pm, an, cd, ct, o, h1, h2, h3⟩ := D
    exact ⟨nm, qn, kV, doc, pm, an, cd, ct, o, k _ _ h1, h2, h3.keeps k⟩
  | _ => exact D.elim

/-- the frame's view of the top -/
structure GK (env : Env) (gs : List Str) : Prop where
  g : env.globals = mainGlobals
  b : env.builtins = builtinsNs
  k : ∀ x ∈ gs, env.kindOf x = some .globalImplicit ∧ (x == ("__debug__" : Str)) = false

noncomputable def gsOk (sc : Scope) (gs : List Str) : Bool := gs.all fun x => (sc.names.lookup x == some .globalImplicit) && !(x == ("__debug__" : Str))
theorem GK.of {env : Env} {gs : List Str} (hg : env.globals = mainGlobals) (hb : env.builtins = builtinsNs) (h : gsOk env.scope gs = true) : GK env gs :=
  ⟨hg, hb, fun x hx => by
    have := List.all_eq_true.mp h x hx
    rw [Bool.and_eq_true, beq_iff_eq, Bool.not_eq_true'] at this
    exact this⟩
noncomputable def lsOk (sc : Scope) (ks : List Str) : Bool := (ks.all fun x => (sc.names.lookup x == some .local) && !(x == ("__debug__" : Str))) && decide ks.Nodup && (sc.names.all fun x => x.2 != .cell) && sc.kind == .function && !sc.isCoroutine && !sc.isGenerator

theorem hidden_up {c h : Heap} {X : List Addr} (k : Up c h) (hX : ∀ a ∈ X, c.get? a = none) : Up c (hideAll h X) := fun a o e =>
  hideAll_get _ (k a o e) fun q => by rw [hX a q] at e; cases e

section
variable {prog : Program} {w : World} {A : Around} {E : Value → Shared → Prop} {h c : Heap} {g : Array GenState} {d : Drawn} {t : Nat} {o : OsState} {env : Env} {vs vs' : Vs} {R R' : Rs} {nm bn : List (Str × Value)} {gs : List Str}

theorem lookup_mem {l : List (Str × Value)} (nd : (l.map (·.1)).Nodup) {x : Str} {v : Value} (hm : (x, v) ∈ l) : l.reverse.lookup x = some v := by
  have key : ∀ (l : List (Str × Value)), (l.map (·.1)).Nodup → (x, v) ∈ l → l.lookup x = some v := by
    intro l
    induction l with
    | nil => intro _ hm; cases hm
    | cons p l ih =>
      intro nd hm
      obtain ⟨y, u⟩ := p
      rw [List.map_cons, List.nodup_cons] at nd
      rcases List.mem_cons.mp hm with e | hm
      · cases e; simp
      · have : x ≠ y := fun e => nd.1 (by rw [← e]; exact List.mem_map_of_mem (f := (·.1)) hm)
        rw [List.lookup_cons]
        simp only [beq_eq_false_iff_ne.mpr this]
        exact ih nd.2 hm
  exact key _ (by rw [List.map_reverse]; exact List.pairwise_reverse.mpr (List.Pairwise.imp (fun h => Ne.symm h) nd)) (List.mem_reverse.mpr hm)

/-- a call of a def of the text without cells; X: its mutable arguments -/
theorem enter {f : Addr} {vals : List Value} {n : Str} {a : Arguments} {b : List Stmt} {ds : List Expr} {ret : Option Expr} {tp : List TypeParam} {sc : Scope} {ts : Option Scope} {bd : Str} {pos : Pos} {k : Nat} {Q : Value → Shared → Prop}
    (X : Rs) (binds : List (Str × Value)) (ls : List Str)
    (hdef : IsDef h f (.FunctionDef n a b ds ret tp sc ts bd pos)) (lim : h.NoLimit) (room : Rm A (k + 1)) (hX : ∀ p ∈ X, p.2.At h p.1) (ndX : (X.map (·.1)).Nodup)
    (hb : ∀ nm qn kV doc pm an cd ct, bindArgs (fnOf nm qn a b sc .none kV doc pm an cd ct) ⟨vals, []⟩ = pure binds)
    (hls : lsOk sc (binds.map (·.1) ++ ls) = true)
    (K : ∀ env h₁ t₁, env.scope = sc → env.globals = mainGlobals → env.builtins = builtinsNs → env.cells = [] → Rm (A.deeper env) k →
      St (hideAll h (X.map (·.1))) env (binds.map (fun p => (p.1, some p.2)) ++ ls.map fun x => (x, none)) X h₁ → Up h h₁ →
      wpAny (model prog w) (A.deeper env) (execs b env) (fun fl s' => Q (match fl with | .ret v => v | _ => .none) s') (fun _ _ => False) ⟨h₁, g, d, t₁, o⟩) :
    wpAny (model prog w) A (call (.ref f) vals) Q E ⟨h, g, d, t, o⟩ := by
  obtain ⟨nm, qn, kV, doc, pm, an, cd, ct, ob, h1, h2, h3⟩ := hdef
  simp only [lsOk, Bool.and_eq_true, decide_eq_true_eq, Bool.not_eq_true', beq_iff_eq] at hls
  obtain ⟨⟨⟨⟨⟨hk, hnd⟩, hcell⟩, hfn⟩, hco⟩, hge⟩ := hls
  have hk' : ∀ x ∈ binds.map (·.1) ++ ls, sc.names.lookup x = some .local ∧ (x == ("__debug__" : Str)) = false := fun x hx => by
    have := List.all_eq_true.mp hk x hx
    rw [Bool.and_eq_true, beq_iff_eq, Bool.not_eq_true'] at this
    exact this
  refine wpAny_call (codeAny_call_def (fd := fnOf nm qn a b sc .none kV doc pm an cd ct) (body := b) (binds := binds) room.room h1 h2 lim h3 rfl (BindsTo.of_eq (hb ..)) (fun x hx => by
    have := List.all_eq_true.mp hcell x hx; simpa using this) (fun x hx => (hk' x.1 (List.mem_append_left _ (List.mem_map_of_mem hx))).1) (fun h₀ hns up => ?_) hco hge hfn)
  have hL : ∀ p ∈ X, p.1 ≠ h.objs.size := fun p hp e => by
    obtain ⟨o', ho'⟩ := (hX p hp).live
    exact Nat.ne_of_lt (Heap.lt_size ho') e
  refine wpAny_mono (K (callEnv (fnOf nm qn a b sc .none kV doc pm an cd ct) h.objs.size f) h₀ _ rfl rfl rfl rfl room.deep ?_ up) (fun _ _ q => q) (fun _ _ q => q.elim)
  exact {
    kp := fun b' o' e => up b' o' (of_hideAll _ e)
    fn := hfn
    ns := ⟨_, hns, fun x v hm => by
      rcases List.mem_append.mp hm with q | q
      · obtain ⟨p, hp, e⟩ := List.mem_map.mp q
        cases e
        exact lookup_mem (List.nodup_append.mp hnd).1 hp
      · obtain ⟨p, hp, e⟩ := List.mem_map.mp q
        cases e⟩
    lk := fun p hp => by
      have : p.1 ∈ binds.map (·.1) ++ ls := by
        rcases List.mem_append.mp hp with q | q
        · obtain ⟨p', hp', rfl⟩ := List.mem_map.mp q
          exact List.mem_append_left _ (List.mem_map_of_mem (f := (·.1)) hp')
        · obtain ⟨p', hp', rfl⟩ := List.mem_map.mp q
          exact List.mem_append_right _ hp'
      exact hk' _ this
    kn := by
      have : (binds.map (fun p => (p.1, some p.2)) ++ ls.map fun x => ((x, none) : Str × Option Value)).map (·.1) = binds.map (·.1) ++ ls := by
        simp [List.map_append, List.map_map, Function.comp_def]
      rw [this]; exact hnd
    own := fun p hp => (hX p hp).at fun o' e => up _ o' e
    nd := by
      rw [List.nodup_cons]
      refine ⟨fun e => ?_, ndX⟩
      obtain ⟨p, hp, e⟩ := List.mem_map.mp e
      exact hL p hp e
    fr := fun a' ha' => by
      rcases List.mem_cons.mp ha' with rfl | q
      · show (hideAll h (X.map (·.1))).get? h.objs.size = none
        cases e : (hideAll h (X.map (·.1))).get? h.objs.size with
        | none => rfl
        | some o' => exact absurd (Heap.lt_size (of_hideAll _ e)) (Nat.lt_irrefl _)
      · exact hideAll_none _ q }

section
variable {x : Str} {v : Value} {pos : Pos} {Q : Value → Shared → Prop}
theorem r_ld (S : St c env vs R h) (hm : (x, some v) ∈ vs) (k : Q v ⟨h, g, d, t, o⟩) : wpAny (model prog w) A (eval (.Name x pos) env) Q E ⟨h, g, d, t, o⟩ :=
  let ⟨_, hn, hv⟩ := S.ns
  wpAny_Name (wpAny_loadName_local S.fn (S.lk _ hm).1 hn (hv _ _ hm) k) (S.lk _ hm).2
theorem r_glob (S : St c env vs R h) (G : Glb c nm bn) (K : GK env gs) (hx : x ∈ gs) (hv : (x, v) ∈ nm) (k : Q v ⟨h, g, d, t, o⟩) : wpAny (model prog w) A (eval (.Name x pos) env) Q E ⟨h, g, d, t, o⟩ := by
  obtain ⟨mg, mb, hg, _, h1, _⟩ := G.ex
  exact Calls.Name_function_global S.fn (K.k x hx).1 (Calls.loadGlobal_global (by rw [K.g]; exact hg.keeps S.kp) (h1 _ hv) k) (K.k x hx).2
theorem r_bi (S : St c env vs R h) (G : Glb c nm bn) (K : GK env gs) (hx : x ∈ gs) (hv : (x, v) ∈ bn) (k : Q v ⟨h, g, d, t, o⟩) : wpAny (model prog w) A (eval (.Name x pos) env) Q E ⟨h, g, d, t, o⟩ := by
  obtain ⟨mg, mb, hg, hb, _, h2⟩ := G.ex
  exact Calls.Name_function_global S.fn (K.k x hx).1 (Calls.loadGlobal_builtin (by rw [K.g]; exact hg.keeps S.kp) (h2 _ hv).1 (by rw [K.b]; exact hb.keeps S.kp) (h2 _ hv).2 k) (K.k x hx).2
theorem r_stU {Q : Unit → Shared → Prop} (S : St c env vs R h) (U : Put x v vs vs') (k : ∀ h' t', St c env vs' R h' → UpBut [env.locals] h h' → Q () ⟨h', g, d, t', o⟩) : wpAny (model prog w) A (storeName env x v) Q E ⟨h, g, d, t, o⟩ := by
  obtain ⟨m, hn, hv⟩ := S.ns
  obtain ⟨u, hu⟩ := U.old
  exact wpAny_storeName_local (S.lk _ hu).1 hn (fun h' hn' hs' => k h' _ (S.set U hv hn' hs') fun a o' n e => by rw [hs'.2 a (by simpa using n)]; exact e) (by rw [S.fn]; rfl)
theorem r_st {Q : Unit → Shared → Prop} (S : St c env vs R h) (U : Put x v vs vs') (k : ∀ h' t', St c env vs' R h' → Q () ⟨h', g, d, t', o⟩) : wpAny (model prog w) A (storeName env x v) Q E ⟨h, g, d, t, o⟩ := by
  obtain ⟨m, hn, hv⟩ := S.ns
  obtain ⟨u, hu⟩ := U.old
  exact wpAny_storeName_local (S.lk _ hu).1 hn (fun h' hn' hs' => k h' _ (S.set U hv hn' hs')) (by rw [S.fn]; rfl)
end

theorem St.done {h₀ : Heap} {X : List Addr} (S : St (hideAll h₀ X) env vs R h) : UpBut X h₀ h := fun a o' hn e => S.kp a o' (hideAll_get _ e hn)
theorem St.pl {a : Addr} {xs : List Value} (S : St c env vs R h) (hm : (a, RO.list xs) ∈ R) : h.PlainList a xs.toArray := S.own _ hm
theorem St.lst {a : Addr} {xs : List Value} (S : St c env vs R h) (hm : (a, RO.list xs) ∈ R) : h.IsList a xs.toArray := (S.pl hm).isList
section
variable {Q : Flow → Shared → Prop}
theorem r_asg {x : Str} {p pos : Pos} {value : Expr} (k : wpAny (model prog w) A (eval value env) (fun v s₁ => wpAny (model prog w) A (storeName env x v) (fun _ => Q .next) E s₁) E ⟨h, g, d, t, o⟩)
    (hs : swapsWith value (some (.Name x p)) pos.line env = pure false := by rfl) : wpAny (model prog w) A (exec (.Assign [.Name x p] value pos) env) Q E ⟨h, g, d, t, o⟩ := wpAny_Assign_Name k hs
theorem r_expr {e : Expr} {pos : Pos} (S : St c env vs R h) (k : wpAny (model prog w) A (eval e env) (fun v s' => v = .none ∧ Q .next s') E ⟨h, g, d, t, o⟩)
    (hs : swapsWith e none pos.line env = pure false := by rfl) : wpAny (model prog w) A (exec (.Expr e pos) env) Q E ⟨h, g, d, t, o⟩ :=
  wpAny_Expr (wpAny_mono k (fun v s' q => by obtain ⟨rfl, q⟩ := q; exact q) fun _ _ q => q) (by unfold interactive; rw [S.fn]; rfl) hs
/-- an if whose ways meet again -/
theorem r_ifJ {test : Expr} {body orelse : List Stmt} {pos : Pos} (J : Heap → Prop)
    (k : wpAny (model prog w) A (isTrue test env (eval test env)) (fun b s₂ => if b then wpAny (model prog w) A (execs body env) (fun f s₃ => f = .next ∧ ∃ h' t', J h' ∧ s₃ = ⟨h', g, d, t', o⟩) (fun _ _ => False) s₂
      else wpAny (model prog w) A (execs orelse env) (fun f s₃ => f = .next ∧ ∃ h' t', J h' ∧ s₃ = ⟨h', g, d, t', o⟩) (fun _ _ => False) s₂) E ⟨h, g, d, t, o⟩)
    (fin : ∀ h t, J h → Q .next ⟨h, g, d, t, o⟩) : wpAny (model prog w) A (exec (.If test body orelse pos) env) Q E ⟨h, g, d, t, o⟩ := by
  refine wpAny_If (wpAny_mono k (fun b s₂ hb => ?_) fun _ _ q => q)
  cases b with
  | false => exact wpAny_mono hb (fun f s₃ q => by obtain ⟨rfl, h', t', hj, rfl⟩ := q; exact fin _ _ hj) fun _ _ q => q.elim
  | true => exact wpAny_mono hb (fun f s₃ q => by obtain ⟨rfl, h', t', hj, rfl⟩ := q; exact fin _ _ hj) fun _ _ q => q.elim
/-- a while: I between the turns, J behind the loop -/
theorem r_while {test : Expr} {body : List Stmt} {pos : Pos} (I : Nat → Heap → Prop) (J : Heap → Prop) (n : Nat) (h0 : I n h)
    (turn : ∀ n h t, I n h → wpAny (model prog w) A (isTrue test env (eval test env)) (fun b s₂ =>
      if b then wpAny (model prog w) A (execs body env) (fun f s₃ => match f with
          | .next | .cont => ∃ m h' t', m < n ∧ I m h' ∧ s₃ = ⟨h', g, d, t', o⟩
          | .brk => ∃ h' t', J h' ∧ s₃ = ⟨h', g, d, t', o⟩
          | .ret v => Q (.ret v) s₃) (fun _ _ => False) s₂
      else ∃ h' t', J h' ∧ s₂ = ⟨h', g, d, t', o⟩) (fun _ _ => False) ⟨h, g, d, t, o⟩)
    (fin : ∀ h t, J h → Q .next ⟨h, g, d, t, o⟩) :
    wpAny (model prog w) A (exec (.While test body [] pos) env) Q E ⟨h, g, d, t, o⟩ := by
  refine wpAny_While (codeAny_whileLoop (fun n s => ∃ h t, I n h ∧ s = ⟨h, g, d, t, o⟩) ?_ n ⟨h, t, h0, rfl⟩)
  rintro n s ⟨h, t, hI, rfl⟩
  refine wpAny_mono (turn n h t hI) (fun b s₂ hb => ?_) fun _ _ q => q.elim
  cases b with
  | false => obtain ⟨h', t', hj, rfl⟩ := hb; exact wpAny_execs_nil (fin _ _ hj)
  | true =>
    refine wpAny_mono hb (fun f s₃ hf => ?_) fun _ _ q => q.elim
    cases f with
    | next => obtain ⟨m, h', t', hm, hI', rfl⟩ := hf; exact ⟨m, hm, h', t', hI', rfl⟩
    | cont => obtain ⟨m, h', t', hm, hI', rfl⟩ := hf; exact ⟨m, hm, h', t', hI', rfl⟩
    | brk => obtain ⟨h', t', hj, rfl⟩ := hf; exact fin _ _ hj
    | ret v => exact hf
end
end
end Mine
namespace Mine
open PySem PySem.W PyProof.Rows
section
variable {prog : Program} {w : World} {A : Around} {E : Value → Shared → Prop} {h c : Heap} {g : Array GenState} {d : Drawn} {t : Nat} {o : OsState} {env : Env} {vs vs' : Vs} {R R' : Rs} {nm bn : List (Str × Value)} {gs : List Str}

theorem r_item {value slice : Expr} {a : Addr} {xs : List Value} {k : Nat} {u : Tok} {v : Value} {Q : Value → Shared → Prop} (hl : h.IsList a xs.toArray) (hhi : k < 1000000) (hx : xs[k]? = some v) (q : Q v ⟨h, g, d, t, o⟩)
    (hs : subscripted slice false (.ref a) (.int k u) = operate [.ref a, .int k u] (getItem (.ref a) (.int k u)) := by with_unfolding_all rfl) :
    wpAny (model prog w) A (subscriptTail value slice (.ref a) (.int k u)) Q E ⟨h, g, d, t, o⟩ :=
  tail_any hl.typeIs slot_list_getitem.lookup (wpAny_getItem_list hl (by lia) (by lia) (by simpa using hx) q) hs
set_option maxRecDepth 20000 in
theorem setItem_plain {s : Shared} {l : Addr} {xs : List Value} {k : Int} {j : Nat} {u : Tok} {v : Value} {Q : Unit → Shared → Prop} (hk : k = j) (hl : s.heap.PlainList l xs.toArray) (hj : j < xs.length) (hf : j < 1000000)
    (hQ : ∀ h', h'.PlainList l (xs.set j v).toArray → Heap.SameBut l s.heap h' → Q () { s with heap := h' }) : wpAny (model prog w) A (setItem (.ref l) (.int k u) v) Q E s := by
  obtain ⟨n, ho⟩ := id hl
  have hi := hl.isList
  unfold setItem
  try with_reducible refine wpAny_holding ?_
  first | refine wpAny_bind (wpAny_pure ?_) | skip
  refine wpAny_bind (wpAny_sequenceKey hi.typeIs (by decide) ?_)
  refine wpAny_bind (wpAny_callSpecial?_slot (name := Str.ofString "__setitem__") hi.typeIs slot_list_setitem
    (wpAny_call_entry slot_list_setitem hi.typeIs entry_list_setitem ?_ (args_list_setitem _ _ _)))
  show wpAny _ _ (Builtin.List.listSubscript? (.int k u) >>= _) _ _ s
  refine wpAny_bind (wpAny_listSubscript_int (fitsIndex_of (by lia) (by lia)) ?_)
  subst hk
  have hx : xs.toArray[j]? = some (xs[j]) := by simp [hj]
  show wpAny _ _ ((seqItemAt l j >>= fun r => pure (r.map (j, ·))) >>= _) _ _ s
  refine wpAny_bind (wpAny_bind (wpAny_seqItemAt ho rfl (wpAny_pure ?_)))
  rw [hx]
  show wpAny _ _ (setSeqItemAt l j v >>= _) _ _ s
  refine wpAny_bind (wpAny_setSeqItemAt ho rfl ?_)
  have fin : (s.heap.update l (Obj.mapSeq (·.setIfInBounds j v))).PlainList l (xs.set j v).toArray :=
    ⟨n, by rw [Heap.get?_update_self _ ho rfl]; simp [Obj.mapSeq]⟩
  first
    | exact wpAny_bind (wpAny_pure (wpAny_pure ⟨.none, rfl, wpAny_pure (hQ _ fin (Heap.SameBut.update ..))⟩))
    | exact wpAny_pure ⟨.none, rfl, wpAny_pure (hQ _ fin (Heap.SameBut.update ..))⟩
theorem r_setitem {a : Addr} {xs : List Value} {k : Nat} {u : Tok} {v : Value} {Q : Unit → Shared → Prop} (S : St c env vs R h) (hm : (a, RO.list xs) ∈ R) (U : Rep a (.list (xs.set k v)) R R') (hhi : k < 1000000) (hn : k < xs.length)
    (q : ∀ h', St c env vs R' h' → Q () ⟨h', g, d, t, o⟩) : wpAny (model prog w) A (setItem (.ref a) (.int k u) v) Q E ⟨h, g, d, t, o⟩ :=
  setItem_plain rfl (S.pl hm) hn hhi fun h' hl hs => q h' (S.upd U hs hl)

/-! calls -/
section
variable {x : Str} {p pos : Pos} {Q : Value → Shared → Prop} {e e1 e2 e3 : Expr} {id : String} {T : String} {f : Addr} {st : Stmt}
theorem IsDef.fn (D : IsDef c f st) : ∃ ob fd, c.get? f = some ob ∧ ob.data = .func fd := by
  cases st with
  | FunctionDef n a b ds ret tp sc ts bd pos => obtain ⟨_, _, _, _, _, _, _, _, o, h1, h2, _⟩ := D; exact ⟨o, _, h1, h2⟩
  | _ => exact D.elim
theorem r_cb1 (S : St c env vs R h) (G : Glb c nm bn) (K : GK env gs) (hx : x ∈ gs) (hv : (x, .builtin id) ∈ bn)
    (k : wpAny (model prog w) A (eval e env) (fun v s₁ => wpAny (model prog w) A (call (.builtin id) [v]) Q E s₁) E ⟨h, g, d, t, o⟩)
    (he : starEach [e] env = [(false, eval e env)] := by rfl) : wpAny (model prog w) A (eval (.Call (.Name x p) [e] [] pos) env) Q E ⟨h, g, d, t, o⟩ :=
  Call_ (r_bi S G K hx hv (PyProof.Rows.callWith_builtin1 (spliced_more (wpAny_mono k (fun _ _ q => spliced_none q) fun _ _ q => q) he) he))
theorem r_cf2 (S : St c env vs R h) (G : Glb c nm bn) (K : GK env gs) (D : IsDef c f st) (hx : x ∈ gs) (hv : (x, .ref f) ∈ nm)
    (k : wpAny (model prog w) A (eval e1 env) (fun v1 s₁ => wpAny (model prog w) A (eval e2 env) (fun v2 s₂ => Up c s₂.heap ∧ wpAny (model prog w) A (call (.ref f) [v1, v2]) Q E s₂) E s₁) E ⟨h, g, d, t, o⟩)
    (he : starEach [e1, e2] env = [(false, eval e1 env), (false, eval e2 env)] := by rfl) (he2 : starEach [e2] env = [(false, eval e2 env)] := by rfl) : wpAny (model prog w) A (eval (.Call (.Name x p) [e1, e2] [] pos) env) Q E ⟨h, g, d, t, o⟩ := by
  obtain ⟨ob, fd, h1, h2⟩ := D.fn
  exact Call_ (r_glob S G K hx hv (callWith_def h2 (spliced_more (wpAny_mono k (fun _ _ q => spliced_more (wpAny_mono q (fun _ _ q => spliced_none ⟨q.1 _ _ h1, q.2⟩) fun _ _ q => q) he2) fun _ _ q => q) (by rw [he, he2])) (by rw [he, he2])))
theorem r_cf3 (S : St c env vs R h) (G : Glb c nm bn) (K : GK env gs) (D : IsDef c f st) (hx : x ∈ gs) (hv : (x, .ref f) ∈ nm)
    (k : wpAny (model prog w) A (eval e1 env) (fun v1 s₁ => wpAny (model prog w) A (eval e2 env) (fun v2 s₂ => wpAny (model prog w) A (eval e3 env) (fun v3 s₃ => Up c s₃.heap ∧ wpAny (model prog w) A (call (.ref f) [v1, v2, v3]) Q E s₃) E s₂) E s₁) E ⟨h, g, d, t, o⟩)
    (he : starEach [e1, e2, e3] env = [(false, eval e1 env), (false, eval e2 env), (false, eval e3 env)] := by rfl) (he2 : starEach [e2, e3] env = [(false, eval e2 env), (false, eval e3 env)] := by rfl) (he3 : starEach [e3] env = [(false, eval e3 env)] := by rfl) : wpAny (model prog w) A (eval (.Call (.Name x p) [e1, e2, e3] [] pos) env) Q E ⟨h, g, d, t, o⟩ := by
  obtain ⟨ob, fd, h1, h2⟩ := D.fn
  exact Call_ (r_glob S G K hx hv (callWith_def h2 (spliced_more (wpAny_mono k (fun _ _ q => spliced_more (wpAny_mono q (fun _ _ q => spliced_more (wpAny_mono q (fun _ _ q => spliced_none ⟨q.1 _ _ h1, q.2⟩) fun _ _ q => q) he3) fun _ _ q => q) (by rw [he2, he3])) fun _ _ q => q) (by rw [he, he2])) (by rw [he, he2])))
theorem r_len {a : Addr} {xs : List Value} (hl : h.IsList a xs.toArray) (hs : xs.length < 1000000) (k : ∀ t' t'', Q (.int (xs.length : Nat) t') ⟨h, g, d, t'', o⟩) : wpAny (model prog w) A (call (.builtin "len") [.ref a]) Q E ⟨h, g, d, t, o⟩ :=
  Calls.call_len_list hl (by simp; lia) (by simpa using k _ _)
end
end
end Mine
namespace Mine
open PySem PySem.W PyProof.Rows
section
variable {c c' h h' : Heap} {env : Env} {vs vs' : Vs} {R R' : Rs}
theorem St.lower (S : St c' env vs R h) (u : Up c c') : St c env vs R h where
  kp := u.trans S.kp
  fn := S.fn
  ns := S.ns
  lk := S.lk
  kn := S.kn
  own := S.own
  nd := S.nd
  fr := fun a ha => by
    cases e : c.get? a with
    | none => rfl
    | some o => have := u a o e; rw [S.fr a ha] at this; cases this
/-- all that stands now, but the frame and the ledger -/
noncomputable def rest (env : Env) (R : Rs) (h : Heap) : Heap := hideAll h (env.locals :: R.map (·.1))
theorem St.rest_up (S : St c env vs R h) : Up c (rest env R h) := fun a o e => hideAll_get _ (S.kp a o e) fun q => by rw [S.fr a q] at e; cases e
theorem St.rebase (S : St c env vs R h) : St (rest env R h) env vs R h where
  kp := fun a o e => of_hideAll _ e
  fn := S.fn
  ns := S.ns
  lk := S.lk
  kn := S.kn
  own := S.own
  nd := S.nd
  fr := fun a ha => hideAll_none _ ha
theorem rest_get {a : Addr} {o : Obj} (e : h.get? a = some o) (n : a ∉ env.locals :: R.map (·.1)) : (rest env R h).get? a = some o := hideAll_get _ e n
/-- the heap moved away from the frame and the ledger -/
theorem St.away {wr : List Addr} (S : St c env vs R h) (k : UpBut wr h h') (hc : ∀ b ∈ wr, c.get? b = none) (hw : ∀ b ∈ wr, b ∉ env.locals :: R.map (·.1)) : St c env vs R h' where
  kp := fun a o e => k a o (fun q => by rw [hc a q] at e; cases e) (S.kp a o e)
  fn := S.fn
  ns := let ⟨m, hn, hm⟩ := S.ns; ⟨m, hn.at' fun o e => k _ o (fun q => hw _ q (.head _)) e, hm⟩
  lk := S.lk
  kn := S.kn
  own := fun p hp => (S.own p hp).at fun o e => k _ o (fun q => hw _ q (.tail _ (List.mem_map_of_mem (f := (·.1)) hp))) e
  nd := S.nd
  fr := S.fr
end
section
variable {prog : Program} {w : World} {A : Around} {E : Value → Shared → Prop} {h c : Heap} {g : Array GenState} {d : Drawn} {t : Nat} {o : OsState} {env : Env} {vs vs' : Vs} {R R' : Rs}

/-- a for over an iterator I; J between the turns, K what is known of the base -/
theorem r_forloop {x : Str} {px : Pos} {body : List Stmt} {Q : Flow → Shared → Prop} {I : Addr} {fp wr : List Addr} {n : Nat} {P : Nat → Value → Prop} {Si : Nat → Heap → Prop}
    (W : Walks prog w A I fp wr n P Si) (J : Nat → Vs → Rs → Prop) (S : St c env vs R h) (j0 : J 0 vs R) (hi : Si 0 h) (hlive : ∀ i h, Si i h → ∀ b ∈ fp, ∃ ob, h.get? b = some ob)
    (hc : ∀ b ∈ wr, c.get? b = none) (hf : ∀ b ∈ fp, b ∉ env.locals :: R.map (·.1)) (hx : ∀ i vs R, J i vs R → ∃ u, (x, u) ∈ vs)
    (turn : ∀ i v c' vs vs1 R h t, i < n → P i v → Up c c' → J i vs R → Put x v vs vs1 → St c' env vs1 R h →
      wpAny (model prog w) A (execs body env) (fun f s₃ => match f with
        | .next | .cont => ∃ vs' R' h' t', J (i + 1) vs' R' ∧ St c' env vs' R' h' ∧ s₃ = ⟨h', g, d, t', o⟩
        | .brk => Q .next s₃
        | .ret v => Q (.ret v) s₃) (fun _ _ => False) ⟨h, g, d, t, o⟩)
    (fin : ∀ vs R h t, J n vs R → St c env vs R h → Q .next ⟨h, g, d, t, o⟩) :
    codeAny (model prog w) A (.forLoop (.Name x px) (.ref I) body [] env) (fun r s' => match r with | .ok f => Q f s' | .error e => cameBackBy (model prog w) A env E e s') ⟨h, g, d, t, o⟩ := by
  refine codeAny_forLoop_any (fun k s => ∃ i vs R h t, k = n - i ∧ i ≤ n ∧ J i vs R ∧ St c env vs R h ∧ Si i h ∧ (∀ b ∈ fp, b ∉ env.locals :: R.map (·.1)) ∧ s = ⟨h, g, d, t, o⟩) ?_ n ⟨0, vs, R, h, t, rfl, Nat.zero_le _, j0, S, hi, hf, rfl⟩
  rintro k s ⟨i, vs, R, h, t, rfl, hin, hj, S, hi, hf, rfl⟩
  have hw : ∀ b ∈ wr, b ∉ env.locals :: R.map (·.1) := fun b hb => hf b (W.sub b hb)
  by_cases hlt : i < n
  · refine W.item i _ _ _ hlt hi fun v h₁ t₁ hP hi₁ hk₁ => ?_
    have S₁ : St c env vs R h₁ := S.away (fun a o' n e => hk₁ a o' n e) hc hw
    refine wpAny_pure (?_ : wpAny _ _ (assign (.Name x px) env v) _ _ _)
    obtain ⟨u, hu⟩ := hx _ _ _ hj
    obtain ⟨vs1, U⟩ : ∃ vs1, Put x v vs vs1 := by
      clear hx hj S S₁ turn fin
      induction vs with
      | nil => cases hu
      | cons p l ih =>
        rcases List.mem_cons.mp hu with rfl | hu
        · exact ⟨_, .head⟩
        · obtain ⟨l', U⟩ := ih hu; exact ⟨_, .tail U⟩
    refine wpAny_assign_Name (r_stU S₁ U fun h₂ t₂ S₂ up₂ => ?_)
    have nl : ∀ b ∈ fp, b ∉ [env.locals] := fun b hb e => hf b hb (by rw [List.mem_singleton.mp e]; exact .head _)
    have hi₂ : Si (i + 1) h₂ := W.frame _ _ _ hi₁ fun b hb ob e => up₂ b ob (nl b hb) e
    refine wpAny_mono (turn i v _ vs vs1 R h₂ t₂ hlt hP S₂.rest_up hj U S₂.rebase) (fun f s₃ hs₃ => ?_) fun _ _ q => q.elim
    have go : ∀ vs' R' h' t', J (i + 1) vs' R' → St (rest env R h₂) env vs' R' h' → s₃ = ⟨h', g, d, t', o⟩ →
        ∃ m, m < n - i ∧ ∃ i vs R h t, m = n - i ∧ i ≤ n ∧ J i vs R ∧ St c env vs R h ∧ Si i h ∧ (∀ b ∈ fp, b ∉ env.locals :: R.map (·.1)) ∧ s₃ = ⟨h, g, d, t, o⟩ := by
      intro vs' R' h' t' j' S' e
      have inb : ∀ b ∈ fp, ∃ ob, h₂.get? b = some ob ∧ (rest env R h₂).get? b = some ob := fun b hb => by
        obtain ⟨ob, e⟩ := hlive _ _ hi₂ b hb
        exact ⟨ob, e, rest_get e (hf b hb)⟩
      refine ⟨n - (i + 1), by lia, i + 1, vs', R', h', t', rfl, hlt, j', S'.lower S₂.rest_up, W.frame _ _ _ hi₂ fun b hb ob e => ?_, fun b hb q => ?_, e⟩
      · exact S'.kp b ob (rest_get e (hf b hb))
      · obtain ⟨ob, _, e⟩ := inb b hb; rw [S'.fr b q] at e; cases e
    cases f with
    | next => obtain ⟨vs', R', h', t', j', S', e⟩ := hs₃; exact go vs' R' h' t' j' S' e
    | cont => obtain ⟨vs', R', h', t', j', S', e⟩ := hs₃; exact go vs' R' h' t' j' S' e
    | brk => exact hs₃
    | ret v => exact hs₃
  · have : i = n := by lia
    subst this
    refine W.done _ _ _ hi fun h₁ t₁ hk₁ => ?_
    exact wpAny_execs_nil (fin vs R h₁ t₁ hj (S.away (fun a o' n e => hk₁ a o' n e) hc hw))
theorem Put.uniq {x : Str} {v : Value} {vs a b : Vs} (nd : (vs.map (·.1)).Nodup) (U : Put x v vs a) (W : Put x v vs b) : a = b := by
  induction U generalizing b with
  | head =>
    cases W with
    | head => rfl
    | tail W =>
      obtain ⟨u, hu⟩ := W.old
      rw [List.map_cons, List.nodup_cons] at nd
      exact absurd (List.mem_map_of_mem (f := (·.1)) hu) nd.1
  | tail U ih =>
    rw [List.map_cons, List.nodup_cons] at nd
    cases W with
    | head =>
      obtain ⟨u, hu⟩ := U.old
      exact absurd (List.mem_map_of_mem (f := (·.1)) hu) nd.1
    | tail W => rw [ih nd.2 W]
/-- a for, its state told by a datum y -/
theorem r_for {α : Type} {x : Str} {px : Pos} {body : List Stmt} {Q : Flow → Shared → Prop} {I : Addr} {fp wr : List Addr} {n : Nat} {P : Nat → Value → Prop} {Si : Nat → Heap → Prop}
    (W : Walks prog w A I fp wr n P Si) (V : α → Vs) (V1 : α → Value → Vs) (RR : α → Rs) (J : Nat → α → Prop) (y0 : α) (S : St c env (V y0) (RR y0) h) (j0 : J 0 y0) (hi : Si 0 h) (hlive : ∀ i h, Si i h → ∀ b ∈ fp, ∃ ob, h.get? b = some ob)
    (hc : ∀ b ∈ wr, c.get? b = none) (hf : ∀ b ∈ fp, b ∉ env.locals :: (RR y0).map (·.1)) (hput : ∀ y v, Put x v (V y) (V1 y v))
    (turn : ∀ i v c' y h t, i < n → P i v → Up c c' → J i y → St c' env (V1 y v) (RR y) h →
      wpAny (model prog w) A (execs body env) (fun f s₃ => match f with
        | .next | .cont => ∃ y' h' t', J (i + 1) y' ∧ St c' env (V y') (RR y') h' ∧ s₃ = ⟨h', g, d, t', o⟩
        | .brk => Q .next s₃
        | .ret v => Q (.ret v) s₃) (fun _ _ => False) ⟨h, g, d, t, o⟩)
    (fin : ∀ y h t, J n y → St c env (V y) (RR y) h → Q .next ⟨h, g, d, t, o⟩) :
    codeAny (model prog w) A (.forLoop (.Name x px) (.ref I) body [] env) (fun r s' => match r with | .ok f => Q f s' | .error e => cameBackBy (model prog w) A env E e s') ⟨h, g, d, t, o⟩ := by
  refine r_forloop W (fun i vs R => ∃ y, vs = V y ∧ R = RR y ∧ J i y) S ⟨y0, rfl, rfl, j0⟩ hi hlive hc hf ?_ ?_ ?_
  · rintro i vs R ⟨y, rfl, _, _⟩; exact (hput y .none).old
  · rintro i v c' vs vs1 R h t hin hP uc ⟨y, rfl, rfl, hj⟩ U S
    have kn : ((V y).map (·.1)).Nodup := by have := S.kn; rwa [U.keys] at this
    cases U.uniq kn (hput y v)
    refine wpAny_mono (turn i v c' y h t hin hP uc hj S) (fun f s₃ q => ?_) fun _ _ q => q
    cases f with
    | next => obtain ⟨y', h', t', j', S', e⟩ := q; exact ⟨_, _, h', t', ⟨y', rfl, rfl, j'⟩, S', e⟩
    | cont => obtain ⟨y', h', t', j', S', e⟩ := q; exact ⟨_, _, h', t', ⟨y', rfl, rfl, j'⟩, S', e⟩
    | brk => exact q
    | ret v => exact q
  · rintro vs R h t ⟨y, rfl, rfl, hj⟩ S; exact fin y h t hj S
end
end Mine
namespace Mine
open PySem PySem.W PySem.Calls PyProof.Rows
theorem sub_ri : isSubtype (.type "range_iterator") (.type "reversed") = pure false := by rw [isSubtype_type]; kernel_rfl
section
variable {prog : Program} {w : World} {A : Around} {E : Value → Shared → Prop} {s : Shared}
abbrev rit (k : Int) : Obj := { cls := .type "range_iterator", data := .fields #[rawInt (k - 1), rawInt k, rawInt (-1)] }
theorem call_rr {r : Addr} {k : Int} {t1 t2 t3 : Tok} {Q : Value → Shared → Prop} (h0 : 0 ≤ k) (hk : k ≤ 1000) (hr : s.heap.get? r = some { cls := .type "range", data := .fields #[.int 0 t1, .int k t2, .int 1 t3] })
    (h : Q (.ref s.heap.objs.size) { s with heap := s.heap.push (rit k) }) : wpAny (model prog w) A (call (.builtin "range.__reversed__") [.ref r]) Q E s := by
  have hT : s.TypeIs (.ref r) "range" := ⟨_, hr, rfl⟩
  refine wpAny_call_entry PySem.F.slot_range_reversed hT PySem.F.entry_range_reversed ?_ (PySem.F.args_range_reversed_1 _)
  unfold Builtin.«range.__reversed__»
  refine wpAny_bind (wpAny_of_eq (a := Value.ref r) rfl ?_)
  refine wpAny_bind (m := Builtin.Range.rangeFields (.ref r)) ?_
  unfold Builtin.Range.rangeFields
  have en : Builtin.Range.rangeSize 0 k 1 = k := by unfold Builtin.Range.rangeSize; simp; lia
  refine wpAny_bind (wpAny_field hr rfl rfl (wpAny_bind (wpAny_of_eq (a := some (0 : Int)) rfl ?_)))
  refine wpAny_bind (wpAny_field hr rfl rfl (wpAny_bind (wpAny_of_eq (a := some k) rfl ?_)))
  refine wpAny_bind (wpAny_field hr rfl rfl (wpAny_bind (wpAny_of_eq (a := some (1 : Int)) rfl ?_)))
  refine wpAny_pure ?_
  show wpAny _ _ (if (!(Builtin.Range.rangeFitsLong 0 && Builtin.Range.rangeFitsLong k && Builtin.Range.rangeFitsLong 1 && Builtin.Range.rangeFitsLong (-1) && Builtin.Range.rangeFitsLong (0 - 1) && Builtin.Range.rangeFitsLong (Builtin.Range.rangeSize 0 k 1))) = true then _ else _) _ _ s
  have f1 : Builtin.Range.rangeFitsLong k = true := by unfold Builtin.Range.rangeFitsLong; simp; lia
  have f2 : (Builtin.Range.rangeFitsLong 0 && Builtin.Range.rangeFitsLong k && Builtin.Range.rangeFitsLong 1 && Builtin.Range.rangeFitsLong (-1) && Builtin.Range.rangeFitsLong (0 - 1) && Builtin.Range.rangeFitsLong k) = true := by
    rw [f1]; decide +kernel
  rw [en, f2, if_neg (by decide)]
  dsimp only
  rw [if_pos rfl]
  have e3 : (0 : Int) + (k - 1) * 1 = k - 1 := by lia
  rw [e3]
  exact wpAny_bind (wpAny_newObj_type (wpAny_pure ⟨_, rfl, h⟩))
theorem code_rr {r : Addr} {k : Int} {t1 t2 t3 : Tok} {Q₁ : Value → Shared → Prop} (h0 : 0 ≤ k) (hk : k ≤ 1000) (hr : s.heap.get? r = some { cls := .type "range", data := .fields #[.int 0 t1, .int k t2, .int 1 t3] })
    (h : Q₁ (.ref s.heap.objs.size) { s with heap := s.heap.push (rit k) }) :
    codeAny (model prog w) A (.call (.builtin "reversed.__new__") ⟨[.type "reversed", .ref r], []⟩) (wants Q₁ E) s := by
  have hT : s.TypeIs (.ref r) "range" := ⟨_, hr, rfl⟩
  refine codeAny_of_tree ?_
  show wpAny _ A.in1 (do checkBuiltinCall "reversed.__new__" ⟨[.type "reversed", .ref r], []⟩; again (.builtin "reversed.__new__" ⟨[.type "reversed", .ref r], []⟩)) _ _ s
  refine wpAny_bind (wpAny_of_eq (F.newCall_reversed_1 _) (wpAny_pure ⟨plainId_quiet F.plain_reversed_new _, codeAny_builtin F.entry_reversed_new ?_⟩))
  rw [Around.under_plainId F.plain_reversed_new _]
  unfold Builtin.«reversed.__new__»
  refine wpAny_bind (wpAny_of_eq (newClass_reversed _) ?_)
  try dsimp only
  refine wpAny_bind (wpAny_of_eq (a := ()) (by first | rfl | kernel_rfl) ?_)
  refine wpAny_bind (wpAny_of_eq (a := ()) (by first | rfl | kernel_rfl) ?_)
  try dsimp only
  refine wpAny_bind (wpAny_specialOf hT PySem.F.slot_range_reversed.lookup ?_)
  try dsimp only
  refine wpAny_bind (wpAny_of_eq (PySem.F.slot_range_reversed.bind _) ?_)
  try dsimp only
  first
  | rw [if_neg (show ¬ ((Value.builtin "range.__reversed__" == Value.none) = true) from Bool.false_ne_true)]
  | (show wpAny _ _ (if (Value.builtin "range.__reversed__" == Value.none) = true then _ else _) _ _ _; rw [if_neg (show ¬ ((Value.builtin "range.__reversed__" == Value.none) = true) from Bool.false_ne_true)])
  refine wpAny_bind (wpAny_rule ?_)
  refine wpAny_bind (m := runValue (.call (.builtin "range.__reversed__") ⟨[.ref r], []⟩)) (show wpAny _ _ (call (.builtin "range.__reversed__") [.ref r]) _ _ _ from call_rr h0 hk hr ?_)
  first
  | exact wpAny_pure h
  | exact wpAny_bind (wpAny_pure (wpAny_pure h))
theorem call_reversed_range {r : Addr} {k : Int} {t1 t2 t3 : Tok} {Q : Value → Shared → Prop} (h0 : 0 ≤ k) (hk : k ≤ 1000) (hr : s.heap.get? r = some { cls := .type "range", data := .fields #[.int 0 t1, .int k t2, .int 1 t3] })
    (h : Q (.ref s.heap.objs.size) { s with heap := s.heap.push (rit k) }) : wpAny (model prog w) A (call (.type "reversed") [.ref r]) Q E s := by
  refine callType_other (U := "range_iterator") (Q₁ := fun obj s₁ => obj = .ref s.heap.objs.size ∧ s₁ = { s with heap := s.heap.push (rit k) }) (by decide +kernel) F.create_reversed ⟨_, _, F.mro_reversed⟩ F.made_reversed sub_ri (F.typeCall_reversed_1 _) (code_rr h0 hk hr ⟨rfl, rfl⟩) ?_
  rintro obj s₁ ⟨rfl, rfl⟩
  exact ⟨⟨_, Heap.get?_push_size _ rfl, rfl⟩, h⟩
end
end Mine
namespace Mine
open PySem PySem.W PyProof.Rows
section
variable {prog : Program} {w : World} {A : Around} {E : Value → Shared → Prop} {h c : Heap} {g : Array GenState} {d : Drawn} {t : Nat} {o : OsState} {env : Env} {vs vs' : Vs} {R R' : Rs} {nm bn : List (Str × Value)} {gs : List Str}
variable {x : Str} {p pos ap : Pos} {Q : Value → Shared → Prop} {e e1 e2 e3 ob : Expr} {id T : String} {name : Str} {a : Addr} {xs : List Value} {v : Value}

theorem fresh_none : h.get? h.objs.size = none := by
  cases e : h.get? h.objs.size with
  | none => rfl
  | some ob => exact absurd (Heap.lt_size e) (Nat.lt_irrefl _)
theorem up_push (ob : Obj) : Up h (h.push ob) := fun _ _ e => Heap.get?_push_of_some ob e
/-- a new address lies off the frame and the ledger -/
theorem St.off (S : St c env vs R h) {b : Addr} (hb : h.get? b = none) : b ∉ env.locals :: R.map (·.1) := fun q => by
  rcases List.mem_cons.mp q with rfl | q
  · obtain ⟨ob, e⟩ := S.live; rw [hb] at e; cases e
  · obtain ⟨p, hp, rfl⟩ := List.mem_map.mp q
    obtain ⟨ob, e⟩ := (S.own p hp).live; rw [hb] at e; cases e
theorem St.cnone (S : St c env vs R h) {b : Addr} (hb : h.get? b = none) : c.get? b = none := by
  cases e : c.get? b with
  | none => rfl
  | some ob => have := S.kp _ _ e; rw [hb] at this; cases this
theorem r_range1 {n : Int} {u : Tok} (k : ∀ a h' t' t1 t3, Up h h' → h.get? a = none → h'.get? a = some { cls := .type "range", data := .fields #[.int 0 t1, .int n u, .int 1 t3] } → Q (.ref a) ⟨h', g, d, t', o⟩) :
    wpAny (model prog w) A (call (.type "range") [.int n u]) Q E ⟨h, g, d, t, o⟩ := call_range_1 (k _ _ _ _ _ (up_push _) fresh_none (Heap.get?_push_size _ rfl))
theorem r_revrange {r : Addr} {n : Int} {t1 t2 t3 : Tok} (h0 : 0 ≤ n) (hk : n ≤ 1000) (hr : h.get? r = some { cls := .type "range", data := .fields #[.int 0 t1, .int n t2, .int 1 t3] })
    (k : ∀ a h' t', Up h h' → h.get? a = none → IsRangeIter h' a (n - 1) n (-1) → Q (.ref a) ⟨h', g, d, t', o⟩) : wpAny (model prog w) A (call (.type "reversed") [.ref r]) Q E ⟨h, g, d, t, o⟩ :=
  call_reversed_range h0 hk hr (k _ _ _ (up_push _) fresh_none (Heap.get?_push_size _ rfl))
theorem r_ct1 (S : St c env vs R h) (G : Glb c nm bn) (K : GK env gs) (hx : x ∈ gs) (hv : (x, .type T) ∈ bn)
    (k : wpAny (model prog w) A (eval e env) (fun v s₁ => wpAny (model prog w) A (call (.type T) [v]) Q E s₁) E ⟨h, g, d, t, o⟩)
    (he : starEach [e] env = [(false, eval e env)] := by rfl) : wpAny (model prog w) A (eval (.Call (.Name x p) [e] [] pos) env) Q E ⟨h, g, d, t, o⟩ :=
  Call_ (r_bi S G K hx hv (PyProof.Rows.callWith_type1 (spliced_more (wpAny_mono k (fun _ _ q => spliced_none q) fun _ _ q => q) he) he))

/-- ov's method is the built-in id -/
noncomputable def Has (prog : Program) (w : World) (A : Around) (ov : Value) (name : Str) (id : String) (s : Shared) : Prop :=
  ∀ (pl : Sem Bool) (Q : Value × List Value → Shared → Prop) (E : Value → Shared → Prop), Q (.builtin id, [ov]) s → wpAny (model prog w) A (getMethod ov name pl) Q E s
theorem has_append {s : Shared} (hl : s.heap.PlainList a xs.toArray) : Has prog w A (.ref a) "append" "list.append" s := fun _ _ _ q => let ⟨_, e⟩ := hl; Calls.getMethod_list_append e rfl rfl q
theorem has_pop {s : Shared} (hl : s.heap.PlainList a xs.toArray) : Has prog w A (.ref a) "pop" "list.pop" s := fun _ _ _ q => let ⟨_, e⟩ := hl; PyProof.Rows.Copied.getMethod_pop_at e rfl rfl q
theorem r_m0 {pl : Sem Bool} (k : wpAny (model prog w) A (eval ob env) (fun ov s₁ => ∃ id, Has prog w A ov name id s₁ ∧ wpAny (model prog w) A (call (.builtin id) [ov]) Q E s₁) E ⟨h, g, d, t, o⟩)
    (he : eval (.Call (.Attribute ob name ap) [] [] pos) env = (do let ov ← eval ob env; standAt ap.atName; let (f, first) ← holding [ov] (getMethod ov name pl); callWith pos f first (backTo pos (starEach [] env)) []) := by rfl) :
    wpAny (model prog w) A (eval (.Call (.Attribute ob name ap) [] [] pos) env) Q E ⟨h, g, d, t, o⟩ :=
  MethodCall_ (wpAny_mono k (fun ov s₁ q => by obtain ⟨id, h1, h2⟩ := q; exact h1 _ _ _ (callWith_method0 h2)) fun _ _ q => q) he
theorem r_m1 {pl : Sem Bool} (k : wpAny (model prog w) A (eval ob env) (fun ov s₁ => ∃ id, Has prog w A ov name id s₁ ∧ wpAny (model prog w) A (eval e env) (fun v s₂ => wpAny (model prog w) A (call (.builtin id) [ov, v]) Q E s₂) E s₁) E ⟨h, g, d, t, o⟩)
    (he : eval (.Call (.Attribute ob name ap) [e] [] pos) env = (do let ov ← eval ob env; standAt ap.atName; let (f, first) ← holding [ov] (getMethod ov name pl); callWith pos f first (backTo pos (starEach [e] env)) []) := by rfl)
    (hs : starEach [e] env = [(false, eval e env)] := by rfl) : wpAny (model prog w) A (eval (.Call (.Attribute ob name ap) [e] [] pos) env) Q E ⟨h, g, d, t, o⟩ :=
  MethodCall_ (wpAny_mono k (fun ov s₁ q => by obtain ⟨id, h1, h2⟩ := q; exact h1 _ _ _ (callWith_method1 (spliced_more (wpAny_mono h2 (fun _ _ q => spliced_none q) fun _ _ q => q) hs) hs)) fun _ _ q => q) he
theorem r_append (S : St c env vs R h) (hR : (a, RO.list xs) ∈ R) (U : Rep a (.list (xs ++ [v])) R R') (hs : xs.length < 1000000) (k : ∀ h', St c env vs R' h' → Q .none ⟨h', g, d, t, o⟩) :
    wpAny (model prog w) A (call (.builtin "list.append") [.ref a, v]) Q E ⟨h, g, d, t, o⟩ :=
  wpAny_list_append_plain (S.pl hR) (fun h' hl hs => k h' (S.upd U hs (by show h'.PlainList a _; simpa using hl))) (by rw [sizeLine_eq]; simp; lia)
theorem r_pop {y : Value} (S : St c env vs R h) (hR : (a, RO.list (xs ++ [y])) ∈ R) (U : Rep a (.list xs) R R') (hs : xs.length < 1000000) (k : ∀ h', St c env vs R' h' → Q y ⟨h', g, d, t, o⟩) :
    wpAny (model prog w) A (call (.builtin "list.pop") [.ref a]) Q E ⟨h, g, d, t, o⟩ := by
  obtain ⟨n, e⟩ := S.pl hR
  exact PyProof.Rows.Copied.pop_at e (by simp) (fun h' hs e' => k h' (S.upd U hs ⟨n + 1, by rw [e']; simp⟩)) (by rw [sizeLine_eq]; simp; lia)
theorem r_iflist {b : Bool → Shared → Prop} (S : St c env vs R h) (hm : (x, some (.ref a)) ∈ vs) (hl : h.IsList a xs.toArray) (hs : xs.length < 1000000) (k : ∀ t', b (!xs.isEmpty) ⟨h, g, d, t', o⟩) :
    wpAny (model prog w) A (isTrue (.Name x p) env (eval (.Name x p) env)) b E ⟨h, g, d, t, o⟩ :=
  isTrue_plain (r_ld S hm (wpAny_truthy_list hl (by simp; lia) (by simpa using k _)))
end
end Mine
namespace Mine
open PySem PySem.W PyProof.Rows
/-- a text by its signs' numbers -/
noncomputable def tx (l : List Nat) : Str := ⟨l.toArray⟩
theorem tx_len (l : List Nat) : (tx l).length = l.length := by simp [tx, Str.length]
theorem tx_cps (l : List Nat) : (tx l).cps.toList = l := by simp [tx]
theorem tx_add (a b : List Nat) : tx a ++ tx b = tx (a ++ b) := by
  show (⟨(tx a).cps ++ (tx b).cps⟩ : Str) = _
  simp [tx]
theorem tx_inj {a b : List Nat} : (tx a == tx b) = decide (a = b) := by
  rw [Bool.eq_iff_iff]; simp [tx]
theorem slice_to (l : List Nat) (n : Nat) : Txt.slice (tx l) none (some (n : Int)) = tx (l.take n) := by
  have := eq_of_beq (slice_to_min_closes (x := tx l) (n := n) (by lia) rfl)
  rw [this]
  simp only [tx_len, tx_cps]
  show tx _ = tx _
  congr 1
  split
  · simp; rw [List.take_of_length_le (by lia)]
  · simp
theorem slice_from (l : List Nat) {n : Nat} (h : n ≤ l.length) : Txt.slice (tx l) (some (n : Int)) none = tx (l.drop n) := by
  have := eq_of_beq (slice_closes_fromL (x := tx l) (i := n) (b := l.length) (by lia) (by rw [tx_len]; lia) (by rw [tx_len]))
  rw [this, tx_cps]
  show tx _ = tx _
  congr 1
  rw [List.take_of_length_le (by simp)]; simp
theorem slice_mid (l : List Nat) {m n : Nat} (h : m ≤ n) (hn : n ≤ l.length) : Txt.slice (tx l) (some (m : Int)) (some (n : Int)) = tx ((l.drop m).take (n - m)) := by
  have := eq_of_beq (slice_closesL (x := tx l) (i := m) (j := n) (by lia) (by lia) (by rw [tx_len]; lia))
  rw [this, tx_cps]
  show tx _ = tx _
  congr 1
  simp
theorem item_at (l : List Nat) {i : Nat} {c : Nat} (h : l[i]? = some c) : Txt.item (tx l) (i : Int) = tx [c] := by
  have hi : i < l.length := (List.getElem?_eq_some_iff.mp h).1
  have e : seqIndex? (i : Int) (tx l).length = some i := by
    unfold seqIndex?; rw [tx_len]; simp; lia
  unfold Txt.item Txt.charAt
  rw [e]
  simp [tx, h]
section
variable {prog : Program} {w : World} {A : Around} {E : Value → Shared → Prop} {h c : Heap} {g : Array GenState} {d : Drawn} {t : Nat} {o : OsState} {env : Env} {vs vs' : Vs} {R R' : Rs} {nm bn : List (Str × Value)} {gs : List Str}
variable {pos : Pos} {Q : Value → Shared → Prop} {value slice : Expr} {l : List Nat} {m n : Nat} {t1 u1 u2 : Tok}
theorem keptUp {h : Heap} : KeptH (fun h' => Up h h') := fun _ _ k => k.trans (up_push _)
theorem t_sl_to (hz : l.length < 10000000) (k : ∀ h' t' t'', Up h h' → Q (.str (tx (l.take n)) t') ⟨h', g, d, t'', o⟩)
    (hs : subscripted slice false (.str (tx l) t1) (.ref h.objs.size) = operate [.ref h.objs.size, .str (tx l) t1] (getItem (.str (tx l) t1) (.ref h.objs.size)) := by with_unfolding_all rfl)
    (ht : ∀ r, letTemporaryGo value (.str (tx l) t1) r = pure () := by intro _; with_unfolding_all rfl) :
    wpAny (model prog w) A (subscriptTail value slice (.str (tx l) t1) (.ref h.objs.size)) Q E ⟨h.push { cls := .type "slice", data := .fields #[.none, .int (n : Int) u1, .none] }, g, d, t, o⟩ :=
  tail_of_ItemOn (SBH.sliceItem_ns (s := ⟨h, g, d, t, o⟩) keptUp (Up.refl h) (fun h' t' k' up => by rw [slice_to]; exact k _ _ _ up) (by rw [tx_len, sizeLine_eq]; lia)) hs ht
theorem t_sl_mid (hz : l.length < 10000000) (hm : m ≤ n) (hn : n ≤ l.length) (k : ∀ h' t' t'', Up h h' → Q (.str (tx ((l.drop m).take (n - m))) t') ⟨h', g, d, t'', o⟩)
    (hs : subscripted slice false (.str (tx l) t1) (.ref h.objs.size) = operate [.ref h.objs.size, .str (tx l) t1] (getItem (.str (tx l) t1) (.ref h.objs.size)) := by with_unfolding_all rfl)
    (ht : ∀ r, letTemporaryGo value (.str (tx l) t1) r = pure () := by intro _; with_unfolding_all rfl) :
    wpAny (model prog w) A (subscriptTail value slice (.str (tx l) t1) (.ref h.objs.size)) Q E ⟨h.push { cls := .type "slice", data := .fields #[.int (m : Int) u1, .int (n : Int) u2, .none] }, g, d, t, o⟩ :=
  tail_of_ItemOn (SBH.sliceItem_ss (s := ⟨h, g, d, t, o⟩) keptUp (Up.refl h) (fun h' t' k' up => by rw [slice_mid l hm hn]; exact k _ _ _ up) (by rw [tx_len, sizeLine_eq]; lia)) hs ht
theorem t_sitem {i ch : Nat} (hc : l[i]? = some ch) (hz : l.length < 10000000) (k : ∀ t' t'', Q (.str (tx [ch]) t') ⟨h, g, d, t'', o⟩)
    (hs : subscripted slice false (.str (tx l) t1) (.int (i : Int) u1) = operate [.str (tx l) t1, .int (i : Int) u1] (getItem (.str (tx l) t1) (.int (i : Int) u1)) := by with_unfolding_all rfl)
    (ht : ∀ r, letTemporaryGo value (.str (tx l) t1) r = pure () := by intro _; with_unfolding_all rfl) :
    wpAny (model prog w) A (subscriptTail value slice (.str (tx l) t1) (.int (i : Int) u1)) Q E ⟨h, g, d, t, o⟩ := by
  have hi : i < l.length := (List.getElem?_eq_some_iff.mp hc).1
  refine item_str ?_ (by rw [tx_len]; lia) (by rw [tx_len]; lia) (fun _ => by rw [item_at l hc]; exact k _ _) hs ht
  unfold fitsSsize
  simp
  lia
theorem t_sadd {a b : List Nat} {ta tb : Tok} (hz : a.length + b.length < 10000000) (k : ∀ t' t'', Q (.str (tx (a ++ b)) t') ⟨h, g, d, t'', o⟩) : wpAny (model prog w) A (binaryOp .Add (.str (tx a) ta) (.str (tx b) tb)) Q E ⟨h, g, d, t, o⟩ :=
  PyProof.Rows.add_str (fun t' tk => by rw [tx_add]; exact k _ _) (by rw [tx_len, tx_len, sizeLine_eq]; lia)
theorem t_seq {a b : List Nat} {ta tb : Tok} (k : Q (.bool (decide (a = b))) ⟨h, g, d, t, o⟩) : wpAny (model prog w) A (compareOp .Eq (.str (tx a) ta) (.str (tx b) tb)) Q E ⟨h, g, d, t, o⟩ :=
  PyProof.Rows.eq_str (by rw [tx_inj]; exact k)
theorem t_sne {a b : List Nat} {ta tb : Tok} (k : Q (.bool (!decide (a = b))) ⟨h, g, d, t, o⟩) : wpAny (model prog w) A (compareOp .NotEq (.str (tx a) ta) (.str (tx b) tb)) Q E ⟨h, g, d, t, o⟩ :=
  PyProof.Rows.ne_str (by rw [bne, tx_inj]; exact k)
theorem t_slen {a : List Nat} {ta : Tok} (hz : a.length < 10000000) (k : ∀ t' t'', Q (.int (a.length : Nat) t') ⟨h, g, d, t'', o⟩) : wpAny (model prog w) A (call (.builtin "len") [.str (tx a) ta]) Q E ⟨h, g, d, t, o⟩ :=
  PyProof.Rows.len_str (by rw [tx_len]; lia) (by rw [tx_len]; exact k _ _)
theorem t_const {x : Str} {l : List Nat} {kk : Nat} (hx : x = tx l) (k : ∀ t' t'', Q (.str (tx l) t') ⟨h, g, d, t'', o⟩) : wpAny (model prog w) A (eval (.Constant (.str x) kk pos) env) Q E ⟨h, g, d, t, o⟩ := by
  subst hx; exact wpAny_Constant_str (k _ _)
end
end Mine
namespace Mine
open PySem PySem.W PyProof.Rows

/-- plain values -/
inductive PV where
  | val (v : Value)
  | int (i : Int)
  | str (l : List Nat)
  | list (l : List PV)

mutual
/-- v means p, told by a heap that stands -/
noncomputable def Den (c : Heap) : Value → PV → Prop
  | v, .val u => v = u
  | v, .int i => ∃ t, v = .int i t
  | v, .str l => ∃ t, v = .str (tx l) t
  | v, .list ps => ∃ a vs, v = .ref a ∧ c.PlainList a vs.toArray ∧ DenL c vs ps
noncomputable def DenL (c : Heap) : List Value → List PV → Prop
  | [], [] => True
  | v :: vs, p :: ps => Den c v p ∧ DenL c vs ps
  | [], _ :: _ => False
  | _ :: _, [] => False
end
mutual
theorem Den.up {c c' : Heap} (k : Up c c') : ∀ (p : PV) {v : Value}, Den c v p → Den c' v p
  | .val _, _, d => by simpa [Den] using d
  | .int _, _, d => by simpa [Den] using d
  | .str _, _, d => by simpa [Den] using d
  | .list ps, _, d => by
    simp only [Den] at d ⊢
    obtain ⟨a, vs, e, h, l⟩ := d
    exact ⟨a, vs, e, h.at fun o => k a o, DenL.up k ps l⟩
theorem DenL.up {c c' : Heap} (k : Up c c') : ∀ (ps : List PV) {vs : List Value}, DenL c vs ps → DenL c' vs ps
  | [], [], _ => by simp [DenL]
  | p :: ps, v :: vs, d => by
    simp only [DenL] at d ⊢
    exact ⟨Den.up k p d.1, DenL.up k ps d.2⟩
  | [], _ :: _, d => by simp [DenL] at d
  | _ :: _, [], d => by simp [DenL] at d
end
theorem DenL.length {c : Heap} : ∀ {ps : List PV} {vs : List Value}, DenL c vs ps → vs.length = ps.length
  | [], [], _ => rfl
  | p :: ps, v :: vs, d => by simp only [DenL] at d; simp [DenL.length d.2]
  | [], _ :: _, d => by simp [DenL] at d
  | _ :: _, [], d => by simp [DenL] at d
theorem DenL.get {c : Heap} : ∀ {ps : List PV} {vs : List Value}, DenL c vs ps → ∀ {i : Nat} {p : PV}, ps[i]? = some p → ∃ v, vs[i]? = some v ∧ Den c v p
  | [], [], _, i, p, h => by simp at h
  | q :: ps, v :: vs, d, i, p, h => by
    simp only [DenL] at d
    cases i with
    | zero => simp at h; subst h; exact ⟨v, rfl, d.1⟩
    | succ i => simp at h; simpa using DenL.get d.2 h
  | [], _ :: _, d, _, _, _ => by simp [DenL] at d
  | _ :: _, [], d, _, _, _ => by simp [DenL] at d
theorem DenL.append {c : Heap} : ∀ {ps qs : List PV} {vs us : List Value}, DenL c vs ps → DenL c us qs → DenL c (vs ++ us) (ps ++ qs)
  | [], _, [], _, _, e => e
  | p :: ps, qs, v :: vs, us, d, e => by
    simp only [DenL] at d
    simp only [List.cons_append, DenL]
    exact ⟨d.1, DenL.append d.2 e⟩
  | [], _, _ :: _, _, d, _ => by simp [DenL] at d
  | _ :: _, _, [], _, d, _ => by simp [DenL] at d
theorem DenL.one {c : Heap} {v : Value} {p : PV} (d : Den c v p) : DenL c [v] [p] := by simp only [DenL]; exact ⟨d, trivial⟩
theorem DenL.take {c : Heap} : ∀ {ps : List PV} {vs : List Value} (n : Nat), DenL c vs ps → DenL c (vs.take n) (ps.take n)
  | [], [], _, _ => by simp [DenL]
  | p :: ps, v :: vs, 0, _ => by simp [DenL]
  | p :: ps, v :: vs, n + 1, d => by simp only [DenL] at d; simp only [List.take_succ_cons, DenL]; exact ⟨d.1, DenL.take n d.2⟩
  | [], _ :: _, _, d => by simp [DenL] at d
  | _ :: _, [], _, d => by simp [DenL] at d
theorem DenL.drop {c : Heap} : ∀ {ps : List PV} {vs : List Value} (n : Nat), DenL c vs ps → DenL c (vs.drop n) (ps.drop n)
  | [], [], _, _ => by simp [DenL]
  | p :: ps, v :: vs, 0, d => by simpa using d
  | p :: ps, v :: vs, n + 1, d => by simp only [DenL] at d; simpa using DenL.drop n d.2
  | [], _ :: _, _, d => by simp [DenL] at d
  | _ :: _, [], _, d => by simp [DenL] at d
theorem DenL.vals {c : Heap} : ∀ {vs us : List Value}, DenL c vs (us.map .val) → vs = us
  | [], [], _ => rfl
  | v :: vs, u :: us, d => by
    simp only [List.map_cons, DenL, Den] at d
    rw [d.1, DenL.vals d.2]
  | [], _ :: _, d => by simp [DenL] at d
  | _ :: _, [], d => by simp [DenL] at d
theorem DenL.ofVals {c : Heap} : ∀ {us : List Value}, DenL c us (us.map .val)
  | [] => by simp [DenL]
  | u :: us => by simp only [List.map_cons, DenL, Den]; exact ⟨trivial, DenL.ofVals⟩

theorem denL1 {c : Heap} {p : PV} : ∀ {vs : List Value}, DenL c vs [p] → ∃ v, vs = [v] ∧ Den c v p ∧ True
  | [v], d => ⟨v, rfl, by simpa only [DenL] using d⟩
  | [], d => by simp [DenL] at d
  | _ :: _ :: _, d => by simp [DenL] at d
theorem denL2 {c : Heap} {p q : PV} : ∀ {vs : List Value}, DenL c vs [p, q] → ∃ v v', vs = [v, v'] ∧ Den c v p ∧ Den c v' q ∧ True
  | v :: vs, d => by
    simp only [DenL] at d
    obtain ⟨v', rfl, e⟩ := denL1 d.2
    exact ⟨v, v', rfl, d.1, e⟩
  | [], d => by simp [DenL] at d
theorem denL3 {c : Heap} {p q r : PV} : ∀ {vs : List Value}, DenL c vs [p, q, r] → ∃ v v' v'', vs = [v, v', v''] ∧ Den c v p ∧ Den c v' q ∧ Den c v'' r ∧ True
  | v :: vs, d => by
    simp only [DenL] at d
    obtain ⟨v', v'', rfl, e⟩ := denL2 d.2
    exact ⟨v, v', v'', rfl, d.1, e⟩
  | [], d => by simp [DenL] at d
theorem args1 {P : List Value → Prop} (h : ∀ a, P [a]) : ∀ vs : List Value, vs.length = 1 → P vs
  | [a], _ => h a
theorem args2 {P : List Value → Prop} (h : ∀ a b, P [a, b]) : ∀ vs : List Value, vs.length = 2 → P vs
  | [a, b], _ => h a b
/-- from a state (c: what stands, h) to a later one; X: what was written -/
structure Ext (X : List Addr) (c h c' h' : Heap) : Prop where
  cc : Up c c'
  ch : Up c' h'
  hh : UpBut X h h'
  lv : ∀ a o, h.get? a = some o → ∃ o', h'.get? a = some o'
  nw : ∀ a o, c'.get? a = some o → c.get? a = some o ∨ h.get? a = none
theorem Ext.refl {X : List Addr} {c h : Heap} (k : Up c h) : Ext X c h c h := ⟨.refl _, k, (Up.refl _).but, fun _ o e => ⟨o, e⟩, fun _ _ e => .inl e⟩
theorem Ext.trans {X : List Addr} {c h c' h' c'' h'' : Heap} (x : Ext X c h c' h') (y : Ext X c' h' c'' h'') : Ext X c h c'' h'' where
  cc := x.cc.trans y.cc
  ch := y.ch
  hh := fun a o n e => y.hh a o n (x.hh a o n e)
  lv := fun a o e => by obtain ⟨o', e'⟩ := x.lv a o e; exact y.lv a o' e'
  nw := fun a o e => by
    rcases y.nw a o e with e | e
    · exact x.nw a o e
    · right
      cases q : h.get? a with
      | none => rfl
      | some o' => obtain ⟨o'', e'⟩ := x.lv a o' q; rw [e] at e'; cases e'
theorem Ext.mono {X Y : List Addr} {c h c' h' : Heap} (x : Ext X c h c' h') (k : ∀ a ∈ X, a ∈ Y ∨ h.get? a = none) : Ext Y c h c' h' :=
  ⟨x.cc, x.ch, fun a o n e => x.hh a o (fun q => by rcases k a q with q | q; exact n q; rw [q] at e; cases e) e, x.lv, x.nw⟩
theorem Ext.sub {Y : List Addr} {c h c' h' : Heap} (x : Ext [] c h c' h') : Ext Y c h c' h' := x.mono (by simp)
theorem Ext.up {c h c' h' : Heap} (x : Ext [] c h c' h') : Up h h' := fun a o e => x.hh a o (by simp) e
theorem Ext.grow {c h h' : Heap} (k : Up c h) (u : Up h h') : Ext [] c h c h' := ⟨.refl _, k.trans u, u.but, fun a o e => ⟨o, u a o e⟩, fun _ _ e => .inl e⟩
/-- a new object that stands from now on -/
theorem Ext.alloc {c h h' : Heap} (k : Up c h) (u : Up h h') {a : Addr} {o : Obj} (n : h.get? a = none) (e : h'.get? a = some o) :
    ∃ c', Ext [] c h c' h' ∧ c'.get? a = some o := by
  refine ⟨hideAll h' ((List.range h'.objs.size).filter fun b => b != a && (c.get? b).isNone), ⟨fun b o' e' => ?_, fun b o' e' => of_hideAll _ e', u.but, fun b o' e' => ⟨o', u _ _ e'⟩, fun b o' e' => ?_⟩, ?_⟩
  · refine hideAll_get _ (u _ _ (k _ _ e')) fun q => ?_
    have := (List.mem_filter.mp q).2
    simp [e'] at this
  · by_cases hb : b = a
    · subst hb; exact .inr n
    · have e2 := of_hideAll _ e'
      cases q : c.get? b with
      | some o2 =>
        have := u _ _ (k _ _ q)
        rw [e2] at this; exact .inl this.symm
      | none =>
        exfalso
        have : (hideAll h' ((List.range h'.objs.size).filter fun b => b != a && (c.get? b).isNone)).get? b = none := hideAll_none _ (List.mem_filter.mpr ⟨List.mem_range.mpr (Heap.lt_size e2), by simp [hb, q]⟩)
        rw [e'] at this; cases this
  · refine hideAll_get _ e fun q => ?_
    have := (List.mem_filter.mp q).2
    simp at this

abbrev Vars := List (Str × Option PV)
abbrev Led := List (Addr × List PV)
/-- where a name lives: in the frame, in a cell of the frame's own, in a cell from outside -/
inductive Pl where
  | loc
  | own (a : Addr)
  | fro (a : Addr)
noncomputable def Own (pl : Str → Pl) (env : Env) (ρ : Vars) (R : Led) (a : Addr) : Prop := a = env.locals ∨ (∃ q ∈ ρ, pl q.1 = .own a) ∨ a ∈ R.map (·.1)
noncomputable def VarAt (c h : Heap) (env : Env) (O : Addr → Prop) (x : Str) (op : Option PV) : Pl → Prop
  | .loc => env.kindOf x = some .local ∧ ∃ m, h.Ns env.locals m ∧ ∀ p, op = some p → ∃ v, m x = some v ∧ Den c v p
  | .own a => env.kindOf x = some .cell ∧ env.cells.lookup x = some a ∧ ∃ ov, h.IsCell a ov ∧ ∀ p, op = some p → ∃ v, ov = some v ∧ Den c v p
  | .fro a => env.kindOf x = some .cell ∧ env.cells.lookup x = some a ∧ ¬ O a ∧ ∃ v p, h.IsCell a (some v) ∧ op = some p ∧ Den c v p
/-- whence the frame began -/
structure Org where
  c : Heap
  h : Heap
  X : List Addr
  fn : Bool
structure FrP (G : Org) (pl : Str → Pl) (c : Heap) (env : Env) (ρ : Vars) (R : Led) (h : Heap) : Prop where
  ex : Ext G.X G.c G.h c h
  fn : env.scope.kind = .function
  ns : ∃ m, h.Ns env.locals m
  vars : ∀ q ∈ ρ, (q.1 == ("__debug__" : Str)) = false ∧ VarAt c h env (Own pl env ρ R) q.1 q.2 (pl q.1)
  kn : (ρ.map (·.1)).Nodup
  rl : ∀ q ∈ R, ∃ xs, h.PlainList q.1 xs.toArray ∧ DenL c xs q.2
  n1 : ∀ q ∈ ρ, ∀ a, pl q.1 = .own a → a ≠ env.locals ∧ a ∉ R.map (·.1)
  n2 : ∀ q ∈ ρ, ∀ r ∈ ρ, ∀ a, pl q.1 = .own a → pl r.1 = .own a → q.1 = r.1
  n3 : env.locals ∉ R.map (·.1)
  n4 : (R.map (·.1)).Nodup
  nc : ∀ a, Own pl env ρ R a → c.get? a = none
  xo : ∀ a, Own pl env ρ R a → a ∈ G.X ∨ G.h.get? a = none
  nf : G.fn = true → ∀ q ∈ ρ, ∀ a, pl q.1 ≠ .fro a
  cv : ∀ x a, env.cells.lookup x = some a → ∃ ob, h.get? a = some ob
noncomputable def Fr (G : Org) (c : Heap) (env : Env) (ρ : Vars) (R : Led) (h : Heap) : Prop := ∃ pl, FrP G pl c env ρ R h

section
variable {G : Org} {pl : Str → Pl} {c c' h h' : Heap} {env : Env} {ρ ρ' : Vars} {R R' : Led}
theorem FrP.live (F : FrP G pl c env ρ R h) {a : Addr} (o : Own pl env ρ R a) : ∃ ob, h.get? a = some ob := by
  rcases o with rfl | ⟨q, hq, e⟩ | o
  · obtain ⟨m, ob, _, _, ho, _⟩ := F.ns; exact ⟨ob, ho⟩
  · have := (F.vars q hq).2
    rw [e] at this
    obtain ⟨_, _, ov, ⟨ob, ho, _⟩, _⟩ := this
    exact ⟨ob, ho⟩
  · obtain ⟨q, hq, rfl⟩ := List.mem_map.mp o
    obtain ⟨xs, ⟨n, ho⟩, _⟩ := F.rl q hq
    exact ⟨_, ho⟩
theorem FrP.extP (F : FrP G pl c env ρ R h) (x : Ext [] c h c' h') : FrP G pl c' env ρ R h' where
  ex := F.ex.trans x.sub
  fn := F.fn
  ns := let ⟨m, hn⟩ := F.ns; ⟨m, hn.keeps x.up⟩
  vars := fun q hq => by
    refine ⟨(F.vars q hq).1, ?_⟩
    have := (F.vars q hq).2
    revert this
    cases pl q.1 with
    | loc => rintro ⟨k, m, hn, hv⟩; exact ⟨k, m, hn.keeps x.up, fun p e => let ⟨v, a, b⟩ := hv p e; ⟨v, a, Den.up x.cc _ b⟩⟩
    | own a => rintro ⟨k, l, ov, hc, hv⟩; exact ⟨k, l, ov, hc.keeps x.up, fun p e => let ⟨v, a, b⟩ := hv p e; ⟨v, a, Den.up x.cc _ b⟩⟩
    | fro a => rintro ⟨k, l, n, v, p, hc, e, d⟩; exact ⟨k, l, n, v, p, hc.keeps x.up, e, Den.up x.cc _ d⟩
  kn := F.kn
  rl := fun q hq => let ⟨xs, hl, d⟩ := F.rl q hq; ⟨xs, hl.at fun o => x.up _ o, DenL.up x.cc _ d⟩
  n1 := F.n1
  n2 := F.n2
  n3 := F.n3
  n4 := F.n4
  nc := fun a o => by
    obtain ⟨ob, ho⟩ := F.live o
    cases e : c'.get? a with
    | none => rfl
    | some o' =>
      rcases x.nw a o' e with q | q
      · rw [F.nc a o] at q; cases q
      · rw [ho] at q; cases q
  xo := F.xo
  nf := F.nf
  cv := fun z a e => let ⟨ob, e'⟩ := F.cv z a e; ⟨ob, x.up _ _ e'⟩
theorem Fr.ext (F : Fr G c env ρ R h) (x : Ext [] c h c' h') : Fr G c' env ρ R h' := let ⟨pl, F⟩ := F; ⟨pl, F.extP x⟩
theorem Fr.up (F : Fr G c env ρ R h) : Up c h := let ⟨_, F⟩ := F; F.ex.ch
theorem Fr.fn (F : Fr G c env ρ R h) : env.scope.kind = .function := let ⟨_, F⟩ := F; F.fn
theorem Fr.ex (F : Fr G c env ρ R h) : Ext G.X G.c G.h c h := let ⟨_, F⟩ := F; F.ex

/-- one variable turned -/
inductive PutP (x : Str) (p : PV) : Vars → Vars → Prop
  | head {u t} : PutP x p ((x, u) :: t) ((x, some p) :: t)
  | tail {q t t'} : PutP x p t t' → PutP x p (q :: t) (q :: t')
section
variable {x : Str} {p : PV}
theorem PutP.keys (U : PutP x p ρ ρ') : ρ'.map (·.1) = ρ.map (·.1) := by
  induction U with
  | head => rfl
  | tail _ ih => simp only [List.map_cons, ih]
theorem PutP.old (U : PutP x p ρ ρ') : ∃ u, (x, u) ∈ ρ := by
  induction U with
  | head => exact ⟨_, .head _⟩
  | tail _ ih => obtain ⟨r, h⟩ := ih; exact ⟨r, .tail _ h⟩
theorem PutP.mem (U : PutP x p ρ ρ') (nd : (ρ.map (·.1)).Nodup) {q : Str × Option PV} (hq : q ∈ ρ') : q = (x, some p) ∨ (q ∈ ρ ∧ q.1 ≠ x) := by
  induction U with
  | head =>
    rcases List.mem_cons.mp hq with rfl | hq
    · exact .inl rfl
    · rw [List.map_cons, List.nodup_cons] at nd
      exact .inr ⟨.tail _ hq, fun e => nd.1 (e ▸ List.mem_map_of_mem (f := (·.1)) hq)⟩
  | tail U ih =>
    rw [List.map_cons, List.nodup_cons] at nd
    rcases List.mem_cons.mp hq with rfl | hq
    · obtain ⟨r, hr⟩ := U.old
      exact .inr ⟨.head _, fun e => nd.1 (by rw [e]; exact List.mem_map_of_mem (f := (·.1)) hr)⟩
    · rcases ih nd.2 hq with rfl | ⟨q1, q2⟩
      · exact .inl rfl
      · exact .inr ⟨.tail _ q1, q2⟩
theorem PutP.name (U : PutP x p ρ ρ') {q : Str × Option PV} (hq : q ∈ ρ') : ∃ r ∈ ρ, r.1 = q.1 := by
  have : q.1 ∈ ρ.map (·.1) := by rw [← U.keys]; exact List.mem_map_of_mem hq
  obtain ⟨r, hr, e⟩ := List.mem_map.mp this
  exact ⟨r, hr, e⟩
end
theorem own_keys (k : ρ'.map (·.1) = ρ.map (·.1)) (a : Addr) : Own pl env ρ' R a ↔ Own pl env ρ R a := by
  have key : ∀ {ρ ρ' : Vars}, ρ'.map (·.1) = ρ.map (·.1) → (∃ q ∈ ρ', pl q.1 = .own a) → (∃ q ∈ ρ, pl q.1 = .own a) := by
    rintro ρ ρ' k ⟨q, hq, e⟩
    have : q.1 ∈ ρ.map (·.1) := by rw [← k]; exact List.mem_map_of_mem hq
    obtain ⟨r, hr, e'⟩ := List.mem_map.mp this
    exact ⟨r, hr, by rw [e']; exact e⟩
  constructor
  · rintro (e | e | e)
    · exact .inl e
    · exact .inr (.inl (key k e))
    · exact .inr (.inr e)
  · rintro (e | e | e)
    · exact .inl e
    · exact .inr (.inl (key k.symm e))
    · exact .inr (.inr e)
/-- the state behind a write to one own object -/
theorem FrP.ex_write (F : FrP G pl c env ρ R h) {a : Addr} (o : Own pl env ρ R a) (hs : Heap.SameBut a h h') (hl : ∃ ob, h'.get? a = some ob) : Ext G.X G.c G.h c h' where
  cc := F.ex.cc
  ch := fun b ob e => by
    rw [hs.2 b fun q => by rw [q, F.nc a o] at e; cases e]
    exact F.ex.ch b ob e
  hh := fun b ob n e => by
    rw [hs.2 b fun q => by rcases F.xo a o with k | k; exact n (q ▸ k); rw [q, k] at e; cases e]
    exact F.ex.hh b ob n e
  lv := fun b ob e => by
    by_cases q : b = a
    · subst q; exact hl
    · rw [hs.2 b q]; exact F.ex.lv b ob e
  nw := F.ex.nw
theorem FrP.stLoc {x : Str} {p : PV} {v : Value} {m : Str → Option Value} (F : FrP G pl c env ρ R h) (U : PutP x p ρ ρ') (hp : pl x = .loc) (d : Den c v p) (hm : h.Ns env.locals m)
    (hn : h'.Ns env.locals (fun y => if y = x then some v else m y)) (hs : Heap.SameBut env.locals h h') : FrP G pl c env ρ' R h' where
  ex := F.ex_write (.inl rfl) hs (by obtain ⟨ob, _, _, ho, _⟩ := hn; exact ⟨ob, ho⟩)
  fn := F.fn
  ns := ⟨_, hn⟩
  vars := fun q hq => by
    obtain ⟨r, hr, er⟩ := U.name hq
    refine ⟨er ▸ (F.vars r hr).1, ?_⟩
    rcases U.mem F.kn hq with e | ⟨hq', ne⟩
    · subst e
      obtain ⟨u, hu⟩ := U.old
      have := (F.vars _ hu).2
      rw [show pl ((x, some p) : Str × Option PV).1 = .loc from hp]
      rw [show pl ((x, u) : Str × Option PV).1 = .loc from hp] at this
      refine ⟨this.1, _, hn, fun p' e => ?_⟩
      cases e
      exact ⟨v, by simp, d⟩
    · have := (F.vars q hq').2
      revert this
      cases e : pl q.1 with
      | loc =>
        rintro ⟨k, m', hn', hv⟩
        exact ⟨k, _, hn, fun p' e' => let ⟨v', a, b⟩ := hv p' e'; ⟨v', by simp only [if_neg ne]; rw [← a]; exact Heap.Ns.agree hm hn' _, b⟩⟩
      | own a =>
        rintro ⟨k, l, ov, hc, hv⟩
        exact ⟨k, l, ov, hc.sameBut hs (F.n1 q hq' a e).1, hv⟩
      | fro a =>
        rintro ⟨k, l, n, v', p', hc, e', d'⟩
        exact ⟨k, l, fun o => n ((own_keys U.keys a).mp o), v', p', hc.sameBut hs (fun q => n (q ▸ .inl rfl)), e', d'⟩
  kn := by rw [U.keys]; exact F.kn
  rl := fun q hq => by
    obtain ⟨xs, hl, dd⟩ := F.rl q hq
    exact ⟨xs, hl.at fun o e => by rw [hs.2 q.1 fun e => F.n3 (e ▸ List.mem_map_of_mem (f := (·.1)) hq)]; exact e, dd⟩
  n1 := fun q hq a e => by obtain ⟨r, hr, er⟩ := U.name hq; exact F.n1 r hr a (er ▸ e)
  n2 := fun q hq r hr a e e' => by
    obtain ⟨q', hq', eq⟩ := U.name hq
    obtain ⟨r', hr', er⟩ := U.name hr
    rw [← eq, ← er]; exact F.n2 q' hq' r' hr' a (eq ▸ e) (er ▸ e')
  n3 := F.n3
  n4 := F.n4
  nc := fun a o => F.nc a ((own_keys U.keys a).mp o)
  xo := fun a o => F.xo a ((own_keys U.keys a).mp o)
  nf := fun g q hq a e => by obtain ⟨r, hr, er⟩ := U.name hq; exact F.nf g r hr a (er ▸ e)
  cv := fun z a e => by obtain ⟨ob, e'⟩ := F.cv z a e; by_cases q : a = env.locals; (· subst q; obtain ⟨ob, _, _, ho, _⟩ := hn; exact ⟨ob, ho⟩); (· exact ⟨ob, by rw [hs.2 a q]; exact e'⟩)
theorem FrP.stOwn {x : Str} {p : PV} {v : Value} {a : Addr} (F : FrP G pl c env ρ R h) (U : PutP x p ρ ρ') (hp : pl x = .own a) (d : Den c v p)
    (hn : h'.IsCell a (some v)) (hs : Heap.SameBut a h h') : FrP G pl c env ρ' R h' := by
  obtain ⟨u, hu⟩ := U.old
  have oa : Own pl env ρ R a := .inr (.inl ⟨_, hu, hp⟩)
  exact {
  ex := F.ex_write oa hs (by obtain ⟨ob, ho, _⟩ := hn; exact ⟨ob, ho⟩)
  fn := F.fn
  ns := let ⟨m, hm⟩ := F.ns; ⟨m, hm.sameBut hs (Ne.symm (F.n1 _ hu a hp).1)⟩
  vars := fun q hq => by
    obtain ⟨r, hr, er⟩ := U.name hq
    refine ⟨er ▸ (F.vars r hr).1, ?_⟩
    rcases U.mem F.kn hq with e | ⟨hq', ne⟩
    · subst e
      have := (F.vars _ hu).2
      rw [show pl ((x, some p) : Str × Option PV).1 = .own a from hp]
      rw [show pl ((x, u) : Str × Option PV).1 = .own a from hp] at this
      refine ⟨this.1, this.2.1, _, hn, fun p' e => ?_⟩
      cases e
      exact ⟨v, rfl, d⟩
    · have := (F.vars q hq').2
      revert this
      cases e : pl q.1 with
      | loc =>
        rintro ⟨k, m', hn', hv⟩
        exact ⟨k, _, hn'.sameBut hs (Ne.symm (F.n1 _ hu a hp).1), hv⟩
      | own b =>
        rintro ⟨k, l, ov, hc, hv⟩
        exact ⟨k, l, ov, hc.sameBut hs (fun q' => ne (F.n2 q hq' _ hu a (q' ▸ e) hp)), hv⟩
      | fro b =>
        rintro ⟨k, l, n, v', p', hc, e', d'⟩
        exact ⟨k, l, fun o => n ((own_keys U.keys b).mp o), v', p', hc.sameBut hs (fun q => n (q ▸ oa)), e', d'⟩
  kn := by rw [U.keys]; exact F.kn
  rl := fun q hq => by
    obtain ⟨xs, hl, dd⟩ := F.rl q hq
    exact ⟨xs, hl.at fun o e => by rw [hs.2 q.1 fun e => (F.n1 _ hu a hp).2 (e ▸ List.mem_map_of_mem (f := (·.1)) hq)]; exact e, dd⟩
  n1 := fun q hq a e => by obtain ⟨r, hr, er⟩ := U.name hq; exact F.n1 r hr a (er ▸ e)
  n2 := fun q hq r hr a e e' => by
    obtain ⟨q', hq', eq⟩ := U.name hq
    obtain ⟨r', hr', er⟩ := U.name hr
    rw [← eq, ← er]; exact F.n2 q' hq' r' hr' a (eq ▸ e) (er ▸ e')
  n3 := F.n3
  n4 := F.n4
  nc := fun a o => F.nc a ((own_keys U.keys a).mp o)
  xo := fun a o => F.xo a ((own_keys U.keys a).mp o)
  nf := fun g q hq a e => by obtain ⟨r, hr, er⟩ := U.name hq; exact F.nf g r hr a (er ▸ e)
  cv := fun z b e => by obtain ⟨ob, e'⟩ := F.cv z b e; by_cases q : b = a; (· subst q; obtain ⟨ob, ho, _⟩ := hn; exact ⟨ob, ho⟩); (· exact ⟨ob, by rw [hs.2 b q]; exact e'⟩) }

/-- one list of the ledger turned -/
inductive RepP (a : Addr) (ps : List PV) : Led → Led → Prop
  | head {r t} : RepP a ps ((a, r) :: t) ((a, ps) :: t)
  | tail {q t t'} : RepP a ps t t' → RepP a ps (q :: t) (q :: t')
section
variable {a : Addr} {ps : List PV}
theorem RepP.keys (U : RepP a ps R R') : R'.map (·.1) = R.map (·.1) := by
  induction U with
  | head => rfl
  | tail _ ih => simp only [List.map_cons, ih]
theorem RepP.old (U : RepP a ps R R') : ∃ r, (a, r) ∈ R := by
  induction U with
  | head => exact ⟨_, .head _⟩
  | tail _ ih => obtain ⟨r, h⟩ := ih; exact ⟨r, .tail _ h⟩
theorem RepP.mem (U : RepP a ps R R') (nd : (R.map (·.1)).Nodup) {q : Addr × List PV} (hq : q ∈ R') : q = (a, ps) ∨ (q ∈ R ∧ q.1 ≠ a) := by
  induction U with
  | head =>
    rcases List.mem_cons.mp hq with rfl | hq
    · exact .inl rfl
    · rw [List.map_cons, List.nodup_cons] at nd
      exact .inr ⟨.tail _ hq, fun e => nd.1 (e ▸ List.mem_map_of_mem (f := (·.1)) hq)⟩
  | tail U ih =>
    rw [List.map_cons, List.nodup_cons] at nd
    rcases List.mem_cons.mp hq with rfl | hq
    · obtain ⟨r, hr⟩ := U.old
      exact .inr ⟨.head _, fun e => nd.1 (by rw [e]; exact List.mem_map_of_mem (f := (·.1)) hr)⟩
    · rcases ih nd.2 hq with rfl | ⟨q1, q2⟩
      · exact .inl rfl
      · exact .inr ⟨.tail _ q1, q2⟩
theorem own_led (k : R'.map (·.1) = R.map (·.1)) (b : Addr) : Own pl env ρ R' b ↔ Own pl env ρ R b := by
  unfold Own; rw [k]
/-- a list of the ledger turned; all else stands -/
theorem FrP.upd {xs : List Value} (F : FrP G pl c env ρ R h) (U : RepP a ps R R') (hs : UpBut [a] h h') (hl : h'.PlainList a xs.toArray) (d : DenL c xs ps) : FrP G pl c env ρ R' h' := by
  obtain ⟨r0, hr0⟩ := U.old
  have oa : Own pl env ρ R a := .inr (.inr (List.mem_map_of_mem (f := (·.1)) hr0))
  have keep : ∀ b o, b ≠ a → h.get? b = some o → h'.get? b = some o := fun b o n e => hs b o (by simpa using n) e
  exact {
  ex := ⟨F.ex.cc, fun b o e => keep b o (fun q => by rw [q, F.nc a oa] at e; cases e) (F.ex.ch b o e), fun b o n e => keep b o (fun q => by rcases F.xo a oa with k | k; exact n (q ▸ k); rw [q, k] at e; cases e) (F.ex.hh b o n e),
    fun b o e => by
      obtain ⟨o', e'⟩ := F.ex.lv b o e
      by_cases q : b = a
      · subst q; obtain ⟨n, e⟩ := hl; exact ⟨_, e⟩
      · exact ⟨_, keep b _ q e'⟩, F.ex.nw⟩
  fn := F.fn
  ns := let ⟨m, hm⟩ := F.ns; ⟨m, hm.at' fun o e => keep _ o (fun q => F.n3 (q ▸ List.mem_map_of_mem (f := (·.1)) hr0)) e⟩
  vars := fun q hq => by
    refine ⟨(F.vars q hq).1, ?_⟩
    have := (F.vars q hq).2
    revert this
    cases e : pl q.1 with
    | loc =>
      rintro ⟨k, m', hn', hv⟩
      exact ⟨k, _, hn'.at' fun o e => keep _ o (fun q => F.n3 (q ▸ List.mem_map_of_mem (f := (·.1)) hr0)) e, hv⟩
    | own b =>
      rintro ⟨k, l, ov, ⟨ob, ho, hd⟩, hv⟩
      exact ⟨k, l, ov, ⟨ob, keep _ _ (fun q' => (F.n1 q hq b e).2 (q' ▸ List.mem_map_of_mem (f := (·.1)) hr0)) ho, hd⟩, hv⟩
    | fro b =>
      rintro ⟨k, l, n, v', p', ⟨ob, ho, hd⟩, e', d'⟩
      exact ⟨k, l, fun o => n ((own_led U.keys b).mp o), v', p', ⟨ob, keep _ _ (fun q => n (q ▸ oa)) ho, hd⟩, e', d'⟩
  kn := F.kn
  rl := fun q hq => by
    rcases U.mem F.n4 hq with rfl | ⟨q1, q2⟩
    · exact ⟨xs, hl, d⟩
    · obtain ⟨ys, hl', dd⟩ := F.rl q q1
      exact ⟨ys, hl'.at fun o e => keep _ o q2 e, dd⟩
  n1 := by rw [U.keys]; exact F.n1
  n2 := F.n2
  n3 := by rw [U.keys]; exact F.n3
  n4 := by rw [U.keys]; exact F.n4
  nc := fun b o => F.nc b ((own_led U.keys b).mp o)
  xo := fun b o => F.xo b ((own_led U.keys b).mp o)
  nf := F.nf
  cv := fun z b e => by obtain ⟨ob, e'⟩ := F.cv z b e; by_cases q : b = a; (· subst q; obtain ⟨n, ho⟩ := hl; exact ⟨_, ho⟩); (· exact ⟨ob, keep b ob q e'⟩) }
theorem Fr.upd {xs : List Value} (F : Fr G c env ρ R h) (U : RepP a ps R R') (hs : UpBut [a] h h') (hl : h'.PlainList a xs.toArray) (d : DenL c xs ps) : Fr G c env ρ R' h' :=
  let ⟨pl, F⟩ := F; ⟨pl, F.upd U hs hl d⟩
theorem Fr.lst (F : Fr G c env ρ R h) (m : (a, ps) ∈ R) : ∃ xs, h.PlainList a xs.toArray ∧ DenL c xs ps := let ⟨_, F⟩ := F; F.rl _ m
theorem Fr.nolst (F : Fr G c env ρ R h) (m : (a, ps) ∈ R) : c.get? a = none := let ⟨_, F⟩ := F; F.nc a (.inr (.inr (List.mem_map_of_mem (f := (·.1)) m)))
end
/-- forget what is known of some variables -/
inductive LessP : Vars → Vars → Prop
  | nil : LessP [] []
  | keep {q t t'} : LessP t t' → LessP (q :: t) (q :: t')
  | drop {x u t t'} : LessP t t' → LessP ((x, u) :: t) ((x, none) :: t')
section
variable {M : Model} {A : Around} {E : Value → Shared → Prop} {g : Array GenState} {d : Drawn} {t : Nat} {o : OsState} {x : Str} {p : PV} {v : Value}
theorem Fr.ldn {Q : Value → Shared → Prop} (F : Fr G c env ρ R h) (hm : (x, some p) ∈ ρ) (k : ∀ v, Den c v p → Q v ⟨h, g, d, t, o⟩) : wpAny M A (loadName env x) Q E ⟨h, g, d, t, o⟩ := by
  obtain ⟨pl, F⟩ := F
  have := (F.vars _ hm).2
  revert this
  show VarAt c h env _ x (some p) (pl x) → _
  cases pl x with
  | loc => rintro ⟨kd, m, hn, hv⟩; obtain ⟨v, a, b⟩ := hv p rfl; exact wpAny_loadName_local F.fn kd hn a (k v b)
  | own a => rintro ⟨kd, l, ov, hc, hv⟩; obtain ⟨v, rfl, b⟩ := hv p rfl; exact wpAny_loadName_cell F.fn kd l hc (k v b)
  | fro a => rintro ⟨kd, l, _, v, p', hc, e, dd⟩; cases e; exact wpAny_loadName_cell F.fn kd l hc (k v dd)
theorem Fr.ld {Q : Value → Shared → Prop} {pos : Pos} (F : Fr G c env ρ R h) (hm : (x, some p) ∈ ρ) (k : ∀ v, Den c v p → Q v ⟨h, g, d, t, o⟩) : wpAny M A (eval (.Name x pos) env) Q E ⟨h, g, d, t, o⟩ :=
  wpAny_Name (F.ldn hm k) (let ⟨_, F⟩ := F; (F.vars _ hm).1)
theorem Fr.stn {Q : Unit → Shared → Prop} (F : Fr G c env ρ R h) (U : PutP x p ρ ρ') (dv : Den c v p) (gf : G.fn = true ∨ env.kindOf x = some .local) (k : ∀ h' t', Fr G c env ρ' R h' → Q () ⟨h', g, d, t', o⟩) : wpAny M A (storeName env x v) Q E ⟨h, g, d, t, o⟩ := by
  obtain ⟨pl, F⟩ := F
  obtain ⟨u, hu⟩ := U.old
  have := (F.vars _ hu).2
  revert this
  show VarAt c h env _ x u (pl x) → _
  cases e : pl x with
  | loc => rintro ⟨kd, m, hn, hv⟩; exact wpAny_storeName_local kd hn (fun h' hn' hs' => k h' _ ⟨pl, F.stLoc U e dv hn hn' hs'⟩) (by rw [F.fn]; rfl)
  | own a => rintro ⟨kd, l, ov, hc, hv⟩; exact wpAny_storeName_cell F.fn kd l hc fun h' hn' hs' => k h' _ ⟨pl, F.stOwn U e dv hn' hs'⟩
  | fro a =>
    rcases gf with gf | gf
    · exact absurd e (F.nf gf _ hu a)
    · rintro ⟨kd, _⟩; rw [gf] at kd; cases kd
end
end
end Mine
namespace Mine
open PySem PySem.W PyProof.Rows
section
variable {prog : Program} {w : World} {A : Around} {K c c' h h' : Heap} {G : Org} {env : Env} {ρ ρ' : Vars} {R R' : Led}

/-- a tree that reads and makes new things alone, and gives p -/
noncomputable def Pu (prog : Program) (w : World) (A : Around) (c h : Heap) (m : Sem Value) (p : PV) : Prop := ∀ (g : Array GenState) (d : Drawn) (t : Nat) (o : OsState) (Q E : Value → Shared → Prop),
  (∀ c' v h' t', Ext [] c h c' h' → Den c' v p → Q v ⟨h', g, d, t', o⟩) → wpAny (model prog w) A m Q E ⟨h, g, d, t, o⟩
noncomputable def PuB (prog : Program) (w : World) (A : Around) (c h : Heap) (m : Sem Bool) (b : Bool) : Prop := ∀ (g : Array GenState) (d : Drawn) (t : Nat) (o : OsState) (Q : Bool → Shared → Prop) (E : Value → Shared → Prop),
  (∀ c' h' t', Ext [] c h c' h' → Q b ⟨h', g, d, t', o⟩) → wpAny (model prog w) A m Q E ⟨h, g, d, t, o⟩
/-- the expression's value, in a frame -/
noncomputable def Ev (prog : Program) (w : World) (A : Around) (K : Heap) (env : Env) (ρ : Vars) (R : Led) (e : Expr) (p : PV) : Prop := ∀ G c h, Up K c → Fr G c env ρ R h → Pu prog w A c h (eval e env) p
noncomputable def EvB (prog : Program) (w : World) (A : Around) (K : Heap) (env : Env) (ρ : Vars) (R : Led) (e : Expr) (b : Bool) : Prop := ∀ G c h, Up K c → Fr G c env ρ R h → PuB prog w A c h (isTrue e env (eval e env)) b
theorem Ev.use {e : Expr} {p : PV} {g d t o} {Q E : Value → Shared → Prop} (x : Ev prog w A K env ρ R e p) (u : Up K c) (F : Fr G c env ρ R h)
    (k : ∀ c' v h' t', Ext [] c h c' h' → Fr G c' env ρ R h' → Den c' v p → Q v ⟨h', g, d, t', o⟩) : wpAny (model prog w) A (eval e env) Q E ⟨h, g, d, t, o⟩ :=
  x G c h u F g d t o Q E fun c' v h' t' x' d' => k c' v h' t' x' (F.ext x') d'
theorem EvB.use {e : Expr} {b : Bool} {g d t o} {Q : Bool → Shared → Prop} {E : Value → Shared → Prop} (x : EvB prog w A K env ρ R e b) (u : Up K c) (F : Fr G c env ρ R h)
    (k : ∀ c' h' t', Ext [] c h c' h' → Fr G c' env ρ R h' → Q b ⟨h', g, d, t', o⟩) : wpAny (model prog w) A (isTrue e env (eval e env)) Q E ⟨h, g, d, t, o⟩ :=
  x G c h u F g d t o Q E fun c' h' t' x' => k c' h' t' x' (F.ext x')

/-- operations on values -/
noncomputable def Op2 (prog : Program) (w : World) (A : Around) (op : Operator) (p q r : PV) : Prop := ∀ c h v u, Up c h → Den c v p → Den c u q → Pu prog w A c h (binaryOp op v u) r
noncomputable def Cm2 (prog : Program) (w : World) (A : Around) (op : CmpOp) (p q : PV) (b : Bool) : Prop := ∀ c h v u, Up c h → Den c v p → Den c u q → Pu prog w A c h (compareOp op v u) (.val (.bool b))
/-- f called with vals, from a heap that holds K -/
noncomputable def Cl (prog : Program) (w : World) (A : Around) (K : Heap) (f : Value) (ps : List PV) (r : PV) : Prop := ∀ c h vs, Up K c → Up c h → DenL c vs ps → Pu prog w A c h (call f vs) r
noncomputable def Tr (prog : Program) (w : World) (A : Around) (p : PV) (b : Bool) : Prop := ∀ c h v, Up c h → Den c v p → PuB prog w A c h (truthy v) b
theorem Cl.mono {K'} {f : Value} {ps : List PV} {r : PV} (x : Cl prog w A K f ps r) (u : Up K K') : Cl prog w A K' f ps r := fun c h vs k => x c h vs (u.trans k)

variable {e e1 e2 e3 : Expr} {p q r : PV} {pos px : Pos} {x : Str} {op : Operator} {co : CmpOp} {b : Bool}
theorem ev_name (m : (x, some p) ∈ ρ) : Ev prog w A K env ρ R (.Name x pos) p := fun _ c h _ F _ _ _ _ _ _ k => F.ld m fun v d => k c v h _ (.refl F.up) d
theorem ev_bin (x1 : Ev prog w A K env ρ R e1 p) (x2 : Ev prog w A K env ρ R e2 q) (y : Op2 prog w A op p q r) : Ev prog w A K env ρ R (.BinOp e1 op e2 pos) r :=
  fun _ _ _ u F _ _ _ _ _ _ k => wpAny_BinOp (x1.use u F fun _ _ _ _ y1 F1 d1 => x2.use (u.trans y1.cc) F1 fun _ _ _ _ y2 F2 d2 =>
    y _ _ _ _ F2.up (Den.up y2.cc _ d1) d2 _ _ _ _ _ _ fun _ _ _ _ y3 d3 => k _ _ _ _ (y1.trans (y2.trans y3)) d3)
theorem ev_int {i : Int} {n : Nat} : Ev prog w A K env ρ R (.Constant (.int i) n pos) (.int i) := fun _ _ _ _ F _ _ _ _ _ _ k => wpAny_Constant_int (k _ _ _ _ (.refl F.up) (by simp [Den]))
theorem ev_str {s : Str} {n : Nat} {l : List Nat} (e : s = tx l) : Ev prog w A K env ρ R (.Constant (.str s) n pos) (.str l) := fun _ _ _ _ F _ _ _ _ _ _ k => by
  subst e; exact wpAny_Constant_str (k _ _ _ _ (.refl F.up) (by simp [Den]))
theorem evb_cmp (x1 : Ev prog w A K env ρ R e1 p) (x2 : Ev prog w A K env ρ R e2 q) (y : Cm2 prog w A co p q b) (hm : behindInMarks co e2 = false := by with_unfolding_all rfl) : EvB prog w A K env ρ R (.Compare e1 [co] [e2] pos) b :=
  fun _ _ _ u F _ _ _ _ _ _ k => wpAny_isTrue_Compare1 (x1.use u F fun _ _ _ _ y1 F1 d1 => x2.use (u.trans y1.cc) F1 fun _ _ _ _ y2 F2 d2 =>
    y _ _ _ _ F2.up (Den.up y2.cc _ d1) d2 _ _ _ _ _ _ fun _ _ _ _ y3 d3 => by
      simp only [Den] at d3; subst d3
      exact wpAny_truthy_bool (k _ _ _ (y1.trans (y2.trans y3)))) hm
theorem evb_not (y : EvB prog w A K env ρ R e b) : EvB prog w A K env ρ R (.UnaryOp .Not e pos) (!b) := fun _ _ _ u F _ _ _ _ _ _ k => isTrue_not (y.use u F fun _ _ _ y1 _ => k _ _ _ y1)
end
end Mine
namespace Mine
open PySem PySem.W PyProof.Rows
section
variable {prog : Program} {w : World} {A : Around} {K c c' h h' : Heap} {G : Org} {env : Env} {ρ ρ' : Vars} {R R' : Led}
variable {e e1 e2 e3 func ob : Expr} {es args : List Expr} {p q r : PV} {ps qs : List PV} {pos px ap : Pos} {x name : Str} {op : Operator} {co : CmpOp} {b b1 b2 : Bool} {nm bn : List (Str × Value)} {gs : List Str} {v : Value} {id T : String} {f : Addr} {st : Stmt}

theorem ev_glob (GG : Glb K nm bn) (k : GK env gs) (hx : x ∈ gs) (hv : (x, v) ∈ nm) : Ev prog w A K env ρ R (.Name x pos) (.val v) := fun _ _ _ u F _ _ _ _ _ _ q => by
  obtain ⟨mg, mb, hg, _, h1, _⟩ := GG.ex
  exact Calls.Name_function_global F.fn (k.k x hx).1 (Calls.loadGlobal_global (by rw [k.g]; exact hg.keeps (u.trans F.up)) (h1 _ hv) (q _ _ _ _ (.refl F.up) (by simp [Den]))) (k.k x hx).2
theorem ev_bi (GG : Glb K nm bn) (k : GK env gs) (hx : x ∈ gs) (hv : (x, v) ∈ bn) : Ev prog w A K env ρ R (.Name x pos) (.val v) := fun _ _ _ u F _ _ _ _ _ _ q => by
  obtain ⟨mg, mb, hg, hb, _, h2⟩ := GG.ex
  exact Calls.Name_function_global F.fn (k.k x hx).1 (Calls.loadGlobal_builtin (by rw [k.g]; exact hg.keeps (u.trans F.up)) (h2 _ hv).1 (by rw [k.b]; exact hb.keeps (u.trans F.up)) (h2 _ hv).2 (q _ _ _ _ (.refl F.up) (by simp [Den]))) (k.k x hx).2

/-- arguments -/
noncomputable def EvL (prog : Program) (w : World) (A : Around) (K : Heap) (env : Env) (ρ : Vars) (R : Led) (pos : Pos) (es : List Expr) (ps : List PV) : Prop :=
  ∀ (G : Org) (c h : Heap), Up K c → Fr G c env ρ R h → ∀ (g : Array GenState) (d : Drawn) (t : Nat) (o : OsState) (Q : List Value → Shared → Prop) (E : Value → Shared → Prop),
    (∀ c' vs h' t', Ext [] c h c' h' → Fr G c' env ρ R h' → DenL c' vs ps → Q vs ⟨h', g, d, t', o⟩) → wpAny (model prog w) A (spliced (backTo pos (starEach es env))) Q E ⟨h, g, d, t, o⟩
theorem evl_nil : EvL prog w A K env ρ R pos [] [] := fun _ _ _ _ F _ _ _ _ _ _ k => spliced_none (k _ _ _ _ (.refl F.up) F (by simp [DenL]))
theorem evl_cons (x1 : Ev prog w A K env ρ R e p) (x2 : EvL prog w A K env ρ R pos es ps) (he : starEach (e :: es) env = (false, eval e env) :: starEach es env := by rfl) : EvL prog w A K env ρ R pos (e :: es) (p :: ps) :=
  fun _ _ _ u F _ _ _ _ _ _ k => spliced_more (x1.use u F fun _ _ _ _ y1 F1 d1 => x2 _ _ _ (u.trans y1.cc) F1 _ _ _ _ _ _ fun _ _ _ _ y2 F2 d2 => k _ _ _ _ (y1.trans y2) F2 (by simp only [DenL]; exact ⟨Den.up y2.cc _ d1, d2⟩)) he

theorem ev_callF (x1 : Ev prog w A K env ρ R func (.val (.ref f))) (D : IsDef K f st) (x2 : EvL prog w A K env ρ R pos (e :: args) ps) (y : Cl prog w A K (.ref f) ps r)
    (he : starEach (e :: args) env = (false, eval e env) :: starEach args env := by rfl)
    (he' : eval (.Call func (e :: args) [] pos) env = (do callWith pos (← eval func env) [] (backTo pos (starEach (e :: args) env)) (backToKw pos (keywordEach [] env))) := by rfl) :
    Ev prog w A K env ρ R (.Call func (e :: args) [] pos) r := fun G _ _ u F _ _ _ _ _ _ k => by
  obtain ⟨ob, fd, h1, h2⟩ := D.fn
  refine Call_ (x1.use u F fun c1 v1 h' t' y1 F1 d1 => ?_) he'
  simp only [Den] at d1; subst d1
  refine callWith_def h2 (x2 G _ _ (u.trans y1.cc) F1 _ _ _ _ _ _ fun c2 vs h'' t'' y2 F2 d2 => ⟨?_, ?_⟩) he
  · exact F2.up _ _ (y2.cc _ _ (y1.cc _ _ (u _ _ h1)))
  · exact y _ _ _ ((u.trans y1.cc).trans y2.cc) F2.up d2 _ _ _ _ _ _ fun _ _ _ _ y3 d3 => k _ _ _ _ (y1.trans (y2.trans y3)) d3
theorem ev_callB (x1 : Ev prog w A K env ρ R func (.val (.builtin id))) (x2 : EvL prog w A K env ρ R pos (e :: args) ps) (y : Cl prog w A K (.builtin id) ps r)
    (he : starEach (e :: args) env = (false, eval e env) :: starEach args env := by rfl) (hp : (backTo pos (starEach args env)).any (·.1) = false := by rfl)
    (he' : eval (.Call func (e :: args) [] pos) env = (do callWith pos (← eval func env) [] (backTo pos (starEach (e :: args) env)) (backToKw pos (keywordEach [] env))) := by rfl) :
    Ev prog w A K env ρ R (.Call func (e :: args) [] pos) r := fun G _ _ u F _ _ _ _ _ _ k => by
  refine Call_ (x1.use u F fun c1 v1 h' t' y1 F1 d1 => ?_) he'
  simp only [Den] at d1; subst d1
  exact PyProof.Rows.callWith_builtin1 (x2 G _ _ (u.trans y1.cc) F1 _ _ _ _ _ _ fun c2 vs h'' t'' y2 F2 d2 =>
    y _ _ _ ((u.trans y1.cc).trans y2.cc) F2.up d2 _ _ _ _ _ _ fun _ _ _ _ y3 d3 => k _ _ _ _ (y1.trans (y2.trans y3)) d3) he hp
/-- p's method -/
noncomputable def HasP (prog : Program) (w : World) (A : Around) (p : PV) (name : Str) (id : String) : Prop := ∀ c h v g d t o, Up c h → Den c v p → Has prog w A v name id ⟨h, g, d, t, o⟩
theorem ev_meth {pl : Sem Bool} (x1 : Ev prog w A K env ρ R ob p) (H : HasP prog w A p name id) (x2 : EvL prog w A K env ρ R pos (e :: args) ps) (y : Cl prog w A K (.builtin id) (p :: ps) r)
    (he : eval (.Call (.Attribute ob name ap) (e :: args) [] pos) env = (do let ov ← eval ob env; standAt ap.atName; let (f, first) ← holding [ov] (getMethod ov name pl); callWith pos f first (backTo pos (starEach (e :: args) env)) []) := by rfl)
    (hs : starEach (e :: args) env = (false, eval e env) :: starEach args env := by rfl) (hp : (backTo pos (starEach args env)).any (·.1) = false := by rfl) :
    Ev prog w A K env ρ R (.Call (.Attribute ob name ap) (e :: args) [] pos) r := fun _ _ _ u F _ _ _ _ _ _ k =>
  MethodCall_ (x1.use u F fun _ _ _ _ y1 F1 d1 => H _ _ _ _ _ _ _ F1.up d1 _ _ _ (callWith_method1 (x2 _ _ _ (u.trans y1.cc) F1 _ _ _ _ _ _ fun _ _ _ _ y2 F2 d2 =>
    y _ _ _ ((u.trans y1.cc).trans y2.cc) F2.up (by simp only [List.cons_append, List.nil_append, DenL]; exact ⟨Den.up y2.cc _ d1, d2⟩) _ _ _ _ _ _ fun _ _ _ _ y3 d3 => k _ _ _ _ (y1.trans (y2.trans y3)) d3) hs hp)) he

/-- tests -/
theorem evb_tr (x1 : Ev prog w A K env ρ R e p) (y : Tr prog w A p b) (he : isTrue e env (eval e env) = (do let v ← eval e env; standAt e.pos; holding [v] (truthy v)) := by rfl) : EvB prog w A K env ρ R e b :=
  fun _ _ _ u F _ _ _ _ _ _ k => isTrue_plain (x1.use u F fun _ _ _ _ y1 F1 d1 => y _ _ _ F1.up d1 _ _ _ _ _ _ fun _ _ _ y3 => k _ _ _ (y1.trans y3)) he
theorem evb_or (x1 : EvB prog w A K env ρ R e b1) (x2 : b1 = false → EvB prog w A K env ρ R (.BoolOp .Or es pos) b2) : EvB prog w A K env ρ R (.BoolOp .Or (e :: es) pos) (b1 || b2) := fun _ _ _ u F _ _ _ _ _ _ k => by
  refine isTrue_or (x1.use u F fun _ _ _ y1 F1 => ?_)
  cases b1 with
  | true => exact k _ _ _ y1
  | false => exact (x2 rfl).use (u.trans y1.cc) F1 fun _ _ _ y2 _ => k _ _ _ (y1.trans y2)
theorem evb_or0 : EvB prog w A K env ρ R (.BoolOp .Or [] pos) false := fun _ _ _ _ F _ _ _ _ _ _ k => isTrue_or_nil (k _ _ _ (.refl F.up))
theorem ev_if (x1 : EvB prog w A K env ρ R e b) (x2 : b = true → Ev prog w A K env ρ R e1 p) (x3 : b = false → Ev prog w A K env ρ R e2 p) : Ev prog w A K env ρ R (.IfExp e e1 e2 pos) p := fun _ _ _ u F _ _ _ _ _ _ k => by
  refine IfExp_ (x1.use u F fun _ _ _ y1 F1 => ?_)
  cases b with
  | true => exact (x2 rfl).use (u.trans y1.cc) F1 fun _ _ _ _ y2 _ d2 => k _ _ _ _ (y1.trans y2) d2
  | false => exact (x3 rfl).use (u.trans y1.cc) F1 fun _ _ _ _ y2 _ d2 => k _ _ _ _ (y1.trans y2) d2
theorem ev_cmp (x1 : Ev prog w A K env ρ R e1 p) (x2 : Ev prog w A K env ρ R e2 q) (y : Cm2 prog w A co p q b) (hm : behindInMarks co e2 = false := by with_unfolding_all rfl) : Ev prog w A K env ρ R (.Compare e1 [co] [e2] pos) (.val (.bool b)) :=
  fun _ _ _ u F _ _ _ _ _ _ k => wpAny_Compare1 (x1.use u F fun _ _ _ _ y1 F1 d1 => x2.use (u.trans y1.cc) F1 fun _ _ _ _ y2 F2 d2 =>
    y _ _ _ _ F2.up (Den.up y2.cc _ d1) d2 _ _ _ _ _ _ fun _ _ _ _ y3 d3 => k _ _ _ _ (y1.trans (y2.trans y3)) d3) hm
/-- x or y -/
theorem ev_or (x1 : Ev prog w A K env ρ R e p) (y : Tr prog w A p b) (hp : b = true → p = r) (x2 : b = false → Ev prog w A K env ρ R e1 r) : Ev prog w A K env ρ R (.BoolOp .Or [e, e1] pos) r := fun _ _ _ u F _ _ _ _ _ _ k => by
  refine BoolOp_or (x1.use u F fun _ _ _ _ y1 F1 d1 => y _ _ _ F1.up d1 _ _ _ _ _ _ fun _ _ _ y2 => ?_)
  cases b with
  | true => exact k _ _ _ _ (y1.trans y2) (Den.up y2.cc _ (hp rfl ▸ d1))
  | false => exact BoolOp_one ((x2 rfl).use ((u.trans y1.cc).trans y2.cc) (F1.ext y2) fun _ _ _ _ y3 _ d3 => k _ _ _ _ (y1.trans (y2.trans y3)) d3)
theorem evb_or1 (x1 : EvB prog w A K env ρ R e b) : EvB prog w A K env ρ R (.BoolOp .Or [e] pos) b := by simpa using evb_or (pos := pos) x1 fun _ => evb_or0

/-- lists -/
theorem new_list (k : Up c h) (hz : ps.length < 1000000) {vs : List Value} (dl : DenL c vs ps) : Pu prog w A c h (newList vs) (.list ps) := fun g d t o Q E kk => by
  obtain ⟨c', x', e'⟩ := Ext.alloc (c := c) (h := h) (h' := h.push { cls := .type "list", data := .seq vs.toArray }) k (up_push _) fresh_none (Heap.get?_push_size _ rfl)
  refine wpAny_newObj_type (kk c' _ _ _ x' ?_) (by show vs.toArray.size ≤ sizeLine; have := dl.length; rw [sizeLine_eq]; simp; lia)
  simp only [Den]
  exact ⟨_, vs, rfl, ⟨0, e'⟩, DenL.up x'.cc _ dl⟩
theorem ev_list (x1 : EvL prog w A K env ρ R pos es ps) (hz : ps.length < 1000000 := by simp) : Ev prog w A K env ρ R (.List es pos) (.list ps) := fun _ _ _ u F _ _ _ _ _ _ k =>
  List_ (x1 _ _ _ u F _ _ _ _ _ _ fun _ _ _ _ y1 F1 d1 => new_list F1.up hz d1 _ _ _ _ _ _ fun _ _ _ _ y2 d2 => k _ _ _ _ (y1.trans y2) d2)
/-- items, slices -/
noncomputable def It2 (prog : Program) (w : World) (A : Around) (value slice : Expr) (p q r : PV) : Prop := ∀ c h v u, Up c h → Den c v p → Den c u q → Pu prog w A c h (subscriptTail value slice v u) r
theorem ev_sub (x1 : Ev prog w A K env ρ R e1 p) (x2 : Ev prog w A K env ρ R e2 q) (y : It2 prog w A e1 e2 p q r) : Ev prog w A K env ρ R (.Subscript e1 e2 pos) r :=
  fun _ _ _ u F _ _ _ _ _ _ k => Subscript_ (x1.use u F fun _ _ _ _ y1 F1 d1 => x2.use (u.trans y1.cc) F1 fun _ _ _ _ y2 F2 d2 =>
    y _ _ _ _ F2.up (Den.up y2.cc _ d1) d2 _ _ _ _ _ _ fun _ _ _ _ y3 d3 => k _ _ _ _ (y1.trans (y2.trans y3)) d3)
end
end Mine
namespace Mine
open PySem PySem.W PyProof.Rows
section
variable {prog : Program} {w : World} {A : Around} {K c c' h h' : Heap} {x y : Int} {a l m : List Nat} {b : Bool}
theorem op_add : Op2 prog w A .Add (.int x) (.int y) (.int (x + y)) := fun c h v u k d1 d2 g d t o Q E q => by
  simp only [Den] at d1 d2; obtain ⟨_, rfl⟩ := d1; obtain ⟨_, rfl⟩ := d2
  exact PyProof.Rows.add_int (q _ _ _ _ (.refl k) (by simp [Den]))
theorem op_sub : Op2 prog w A .Sub (.int x) (.int y) (.int (x - y)) := fun c h v u k d1 d2 g d t o Q E q => by
  simp only [Den] at d1 d2; obtain ⟨_, rfl⟩ := d1; obtain ⟨_, rfl⟩ := d2
  exact PyProof.Rows.sub_int (q _ _ _ _ (.refl k) (by simp [Den]))
theorem op_mod (hy : y ≠ 0) : Op2 prog w A .Mod (.int x) (.int y) (.int (x.fmod y)) := fun c h v u k d1 d2 g d t o Q E q => by
  simp only [Den] at d1 d2; obtain ⟨_, rfl⟩ := d1; obtain ⟨_, rfl⟩ := d2
  exact PyProof.Rows.mod_int hy (q _ _ _ _ (.refl k) (by simp [Den]))
theorem op_fdiv (hy : y ≠ 0) (hp : Builtin.divisionGoesByPylong x y = false) : Op2 prog w A .FloorDiv (.int x) (.int y) (.int (x.fdiv y)) := fun c h v u k d1 d2 g d t o Q E q => by
  simp only [Den] at d1 d2; obtain ⟨_, rfl⟩ := d1; obtain ⟨_, rfl⟩ := d2
  exact PyProof.Rows.floordiv_int hy (q _ _ _ _ (.refl k) (by simp [Den])) (.inl hp)
theorem op_pow (hn : 0 ≤ y) (hsz : (Builtin.Int.intBits x : Int) * y ≤ 2 ^ 27) : Op2 prog w A .Pow (.int x) (.int y) (.int (x ^ y.toNat)) := fun c h v u k d1 d2 g d t o Q E q => by
  simp only [Den] at d1 d2; obtain ⟨_, rfl⟩ := d1; obtain ⟨_, rfl⟩ := d2
  exact PyProof.Rows.pow_int hn hsz (q _ _ _ _ (.refl k) (by simp [Den]))
theorem cm_lt : Cm2 prog w A .Lt (.int x) (.int y) (decide (x < y)) := fun c h v u k d1 d2 g d t o Q E q => by
  simp only [Den] at d1 d2; obtain ⟨_, rfl⟩ := d1; obtain ⟨_, rfl⟩ := d2
  exact PyProof.Rows.lt_int (q _ _ _ _ (.refl k) (by simp [Den]))
theorem cm_le : Cm2 prog w A .LtE (.int x) (.int y) (decide (x ≤ y)) := fun c h v u k d1 d2 g d t o Q E q => by
  simp only [Den] at d1 d2; obtain ⟨_, rfl⟩ := d1; obtain ⟨_, rfl⟩ := d2
  exact PyProof.Rows.le_int (q _ _ _ _ (.refl k) (by simp [Den]))
theorem cm_gt : Cm2 prog w A .Gt (.int x) (.int y) (decide (y < x)) := fun c h v u k d1 d2 g d t o Q E q => by
  simp only [Den] at d1 d2; obtain ⟨_, rfl⟩ := d1; obtain ⟨_, rfl⟩ := d2
  exact PyProof.Rows.gt_int (q _ _ _ _ (.refl k) (by simp [Den]))
theorem cm_eq : Cm2 prog w A .Eq (.int x) (.int y) (x == y) := fun c h v u k d1 d2 g d t o Q E q => by
  simp only [Den] at d1 d2; obtain ⟨_, rfl⟩ := d1; obtain ⟨_, rfl⟩ := d2
  exact PyProof.Rows.eq_int (q _ _ _ _ (.refl k) (by simp [Den]))
theorem op_sadd (hz : l.length + m.length < 10000000) : Op2 prog w A .Add (.str l) (.str m) (.str (l ++ m)) := fun c h v u k d1 d2 g d t o Q E q => by
  simp only [Den] at d1 d2; obtain ⟨_, rfl⟩ := d1; obtain ⟨_, rfl⟩ := d2
  exact t_sadd hz fun _ _ => q _ _ _ _ (.refl k) (by simp [Den])
theorem cm_seq : Cm2 prog w A .Eq (.str l) (.str m) (decide (l = m)) := fun c h v u k d1 d2 g d t o Q E q => by
  simp only [Den] at d1 d2; obtain ⟨_, rfl⟩ := d1; obtain ⟨_, rfl⟩ := d2
  exact t_seq (q _ _ _ _ (.refl k) (by simp [Den]))
theorem cm_sne : Cm2 prog w A .NotEq (.str l) (.str m) (!decide (l = m)) := fun c h v u k d1 d2 g d t o Q E q => by
  simp only [Den] at d1 d2; obtain ⟨_, rfl⟩ := d1; obtain ⟨_, rfl⟩ := d2
  exact t_sne (q _ _ _ _ (.refl k) (by simp [Den]))
theorem cm_slt : Cm2 prog w A .Lt (.str l) (.str m) (decide (l < m)) := fun c h v u k d1 d2 g d t o Q E q => by
  simp only [Den] at d1 d2; obtain ⟨_, rfl⟩ := d1; obtain ⟨_, rfl⟩ := d2
  exact PyProof.Rows.lt_str (by rw [tx_cps, tx_cps]; exact q _ _ _ _ (.refl k) (by simp [Den]))
theorem cm_sgt : Cm2 prog w A .Gt (.str l) (.str m) (decide (m < l)) := fun c h v u k d1 d2 g d t o Q E q => by
  simp only [Den] at d1 d2; obtain ⟨_, rfl⟩ := d1; obtain ⟨_, rfl⟩ := d2
  refine PySem.P.gt_str (h := ?_)
  rw [tx_cps, tx_cps]; exact q _ _ _ _ (.refl k) (by simp [Den])
theorem tr_bool : Tr prog w A (.val (.bool b)) b := fun c h v k d1 g d t o Q E q => by
  simp only [Den] at d1; subst d1; exact wpAny_truthy_bool (q _ _ _ (.refl k))
theorem cl_slen (hz : l.length < 10000000) : Cl prog w A K (.builtin "len") [.str l] (.int l.length) := fun c h vs _ k d1 g d t o Q E q => by
  obtain ⟨v, rfl, d1⟩ := denL1 d1
  · simp only [DenL, Den] at d1; obtain ⟨⟨t, rfl⟩, _⟩ := d1
    exact t_slen hz fun _ _ => q _ _ _ _ (.refl k) (by simp [Den])
theorem cl_len {ps : List PV} (hz : ps.length < 1000000) : Cl prog w A K (.builtin "len") [.list ps] (.int ps.length) := fun c h vs _ k d1 g d t o Q E q => by
  obtain ⟨v, rfl, d1⟩ := denL1 d1
  · simp only [DenL, Den] at d1; obtain ⟨⟨a, us, rfl, hl, dl⟩, _⟩ := d1
    refine r_len (hl.at fun o => k _ o).isList (by rw [dl.length]; exact hz) fun _ _ => q _ _ _ _ (.refl k) ?_
    rw [dl.length]; simp [Den]
end
end Mine
namespace Mine
open PySem PySem.W PyProof.Rows
section
variable {G : Org} {pl : Str → Pl} {c c' h h' : Heap} {env : Env} {ρ ρ' : Vars} {R R' : Led} {wr fp : List Addr}
/-- the addresses wr are none of the frame's -/
noncomputable def Off (G : Org) (c : Heap) (env : Env) (R : Led) (wr : List Addr) : Prop := ∀ b ∈ wr, c.get? b = none ∧ G.h.get? b = none ∧ b ≠ env.locals ∧ b ∉ R.map (·.1) ∧ ∀ x, env.cells.lookup x ≠ some b
theorem FrP.own_ne (F : FrP G pl c env ρ R h) (off : Off G c env R wr) {b : Addr} (hb : b ∈ wr) : ¬ Own pl env ρ R b := by
  obtain ⟨_, _, n1, n2, n3⟩ := off b hb
  rintro (e | ⟨q, hq, e⟩ | e)
  · exact n1 e
  · have := (F.vars q hq).2
    rw [e] at this
    exact n3 _ this.2.1
  · exact n2 e
theorem FrP.away (F : FrP G pl c env ρ R h) (off : Off G c env R wr) (k : UpBut wr h h') : FrP G pl c env ρ R h' where
  ex := ⟨F.ex.cc, fun b o e => k b o (fun q => by rw [(off b q).1] at e; cases e) (F.ex.ch b o e),
    fun b o n e => k b o (fun q => by rw [(off b q).2.1] at e; cases e) (F.ex.hh b o n e),
    fun b o e => by obtain ⟨o', e'⟩ := F.ex.lv b o e; exact ⟨o', k b o' (fun q => by rw [(off b q).2.1] at e; cases e) e'⟩, F.ex.nw⟩
  fn := F.fn
  ns := let ⟨m, hm⟩ := F.ns; ⟨m, hm.at' fun o e => k _ o (fun q => (off _ q).2.2.1 rfl) e⟩
  vars := fun q hq => by
    refine ⟨(F.vars q hq).1, ?_⟩
    have := (F.vars q hq).2
    revert this
    cases e : pl q.1 with
    | loc => rintro ⟨kd, m', hn', hv⟩; exact ⟨kd, m', hn'.at' fun o e => k _ o (fun q => (off _ q).2.2.1 rfl) e, hv⟩
    | own b => rintro ⟨kd, l, ov, ⟨ob, ho, hd⟩, hv⟩; exact ⟨kd, l, ov, ⟨ob, k _ _ (fun q' => (off _ q').2.2.2.2 _ l) ho, hd⟩, hv⟩
    | fro b => rintro ⟨kd, l, n, v', p', ⟨ob, ho, hd⟩, e', d'⟩; exact ⟨kd, l, n, v', p', ⟨ob, k _ _ (fun q' => (off _ q').2.2.2.2 _ l) ho, hd⟩, e', d'⟩
  kn := F.kn
  rl := fun q hq => let ⟨xs, hl, d⟩ := F.rl q hq; ⟨xs, hl.at fun o e => k _ o (fun z => (off _ z).2.2.2.1 (List.mem_map_of_mem (f := (·.1)) hq)) e, d⟩
  n1 := F.n1
  n2 := F.n2
  n3 := F.n3
  n4 := F.n4
  nc := F.nc
  xo := F.xo
  nf := F.nf
  cv := fun z a e => let ⟨ob, e'⟩ := F.cv z a e; ⟨ob, k _ _ (fun q => (off _ q).2.2.2.2 z e) e'⟩
theorem Fr.away (F : Fr G c env ρ R h) (off : Off G c env R wr) (k : UpBut wr h h') : Fr G c env ρ R h' := let ⟨pl, F⟩ := F; ⟨pl, F.away off k⟩

noncomputable def ownL (pl : Str → Pl) (env : Env) (ρ : Vars) (R : Led) : List Addr := env.locals :: (ρ.filterMap fun q => match pl q.1 with | .own a => some a | _ => none) ++ R.map (·.1)
theorem ownL_iff {a : Addr} : a ∈ ownL pl env ρ R ↔ Own pl env ρ R a := by
  unfold ownL Own
  rw [List.mem_append, List.mem_cons, List.mem_filterMap, or_assoc]
  refine or_congr Iff.rfl (or_congr ⟨?_, ?_⟩ Iff.rfl)
  · rintro ⟨q, hq, e⟩
    refine ⟨q, hq, ?_⟩
    cases e' : pl q.1 with
    | own b => rw [e'] at e; simp at e; rw [e]
    | loc => rw [e'] at e; simp at e
    | fro b => rw [e'] at e; simp at e
  · rintro ⟨q, hq, e⟩; exact ⟨q, hq, by rw [e]⟩
theorem Ext.trans' {X O : List Addr} {c h c' h' c'' h'' : Heap} (x : Ext X c h c' h') (y : Ext O c' h' c'' h'') (k : ∀ a ∈ O, a ∈ X ∨ h.get? a = none) : Ext X c h c'' h'' where
  cc := x.cc.trans y.cc
  ch := y.ch
  hh := fun a o n e => y.hh a o (fun q => by rcases k a q with z | z; exact n z; rw [z] at e; cases e) (x.hh a o n e)
  lv := fun a o e => by obtain ⟨o', e'⟩ := x.lv a o e; exact y.lv a o' e'
  nw := fun a o e => by
    rcases y.nw a o e with e | e
    · exact x.nw a o e
    · right
      cases q : h.get? a with
      | none => rfl
      | some o' => obtain ⟨o'', e'⟩ := x.lv a o' q; rw [e] at e'; cases e'
/-- a stretch of the run told from its own start -/
theorem Fr.rebase (F : Fr G c env ρ R h) (off : Off G c env R wr) (lv : ∀ b ∈ wr, ∃ o, h.get? b = some o) : ∃ G', G'.fn = G.fn ∧ Fr G' c env ρ R h ∧ (∀ c' ρ' R' h', Fr G' c' env ρ' R' h' → Fr G c' env ρ' R' h' ∧ Up c c') ∧
    ∀ c' ρ' R' h', Fr G' c' env ρ' R' h' → Off G c' env R' wr ∧ ∀ b ∈ wr, ∀ o, h.get? b = some o → h'.get? b = some o := by
  obtain ⟨pl, F⟩ := F
  have nl : ∀ a o, G.h.get? a = some o → h.get? a ≠ none := fun a o e q => by obtain ⟨o', e'⟩ := F.ex.lv a o e; rw [q] at e'; cases e'
  refine ⟨⟨c, h, ownL pl env ρ R, G.fn⟩, rfl, ⟨pl, { F with ex := .refl F.ex.ch, xo := fun a o => .inl (ownL_iff.mpr o) }⟩, ?_, ?_⟩
  · rintro c' ρ' R' h' ⟨pl', F'⟩
    have key : ∀ a, a ∈ ownL pl env ρ R ∨ h.get? a = none → a ∈ G.X ∨ G.h.get? a = none := fun a q => by
      rcases q with q | q
      · exact F.xo a (ownL_iff.mp q)
      · right
        cases e : G.h.get? a with
        | none => rfl
        | some o => exact absurd q (nl a o e)
    exact ⟨⟨pl', { F' with ex := F.ex.trans' F'.ex (fun a q => key a (.inl q)), xo := fun a o => key a (F'.xo a o) }⟩, F'.ex.cc⟩
  · rintro c' ρ' R' h' ⟨pl', F'⟩
    have no : ∀ b ∈ wr, b ∉ ownL pl env ρ R := fun b hb q => F.own_ne off hb (ownL_iff.mp q)
    refine ⟨fun b hb => ?_, fun b hb o e => F'.ex.hh b o (no b hb) e⟩
    obtain ⟨o, ho⟩ := lv b hb
    obtain ⟨n1, n2, n3, n4, n5⟩ := off b hb
    refine ⟨?_, n2, n3, fun q => ?_, n5⟩
    · cases e : c'.get? b with
      | none => rfl
      | some o' =>
        rcases F'.ex.nw b o' e with z | z
        · rw [n1] at z; cases z
        · have z : h.get? b = none := z
          rw [ho] at z; cases z
    · rcases F'.xo b (.inr (.inr q)) with z | z
      · exact no b hb z
      · have z : h.get? b = none := z
        rw [ho] at z; cases z

/-- several variables turned -/
inductive PutsP : List Str → List PV → Vars → Vars → Prop
  | nil {u : Vars} : PutsP [] [] u u
  | cons {x p xs ps} {u u' u'' : Vars} : PutP x p u u' → PutsP xs ps u' u'' → PutsP (x :: xs) (p :: ps) u u''
/-- an iterator I, its items given out to the names xs; Si i: i of them are given out -/
structure Src (prog : Program) (w : World) (A : Around) (K : Heap) (target : Expr) (xs : List Str) (I : Addr) (fp wr : List Addr) (items : List (List PV)) (Si : Nat → Heap → Prop) : Prop where
  sub : ∀ b ∈ wr, b ∈ fp
  old : ∀ b ∈ fp, b ∈ wr ∨ ∃ o, K.get? b = some o
  live : ∀ i h, Si i h → ∀ b ∈ fp, ∃ o, h.get? b = some o
  frame : ∀ i h h', Si i h → (∀ b ∈ fp, ∀ o, h.get? b = some o → h'.get? b = some o) → Si i h'
  next : ∀ (i : Nat) (its : List PV) (G : Org) (c : Heap) (env : Env) (ρ ρ' : Vars) (R : Led) (h : Heap) (g : Array GenState) (d : Drawn) (t : Nat) (o : OsState) (Q : Unit → Shared → Prop) (E : Value → Shared → Prop),
    items[i]? = some its → Si i h → Up K c → Fr G c env ρ R h → Off G c env R wr → PutsP xs its ρ ρ' → (G.fn = true ∨ ∀ x ∈ xs, env.kindOf x = some .local) →
    (∀ h' t', Si (i + 1) h' → Fr G c env ρ' R h' → Q () ⟨h', g, d, t', o⟩) →
    wpAny (model prog w) A (pyNext (.ref I)) (fun r s₁ => ∃ v, r = some v ∧ wpAny (model prog w) A (letOwnedTupleGo target (.ref I) v) (fun _ s₂ => wpAny (model prog w) A (assign target env v) Q E s₂) E s₁) E ⟨h, g, d, t, o⟩
  done : ∀ (G : Org) (c : Heap) (env : Env) (ρ : Vars) (R : Led) (h : Heap) (g : Array GenState) (d : Drawn) (t : Nat) (o : OsState) (Q : Option Value → Shared → Prop) (E : Value → Shared → Prop),
    Si items.length h → Up K c → Fr G c env ρ R h → Off G c env R wr → (∀ h' t', Fr G c env ρ R h' → Q none ⟨h', g, d, t', o⟩) → wpAny (model prog w) A (pyNext (.ref I)) Q E ⟨h, g, d, t, o⟩
  self : ∀ i (s : Shared) (Q : Value → Shared → Prop) (E : Value → Shared → Prop), Si i s.heap → Q (.ref I) s → wpAny (model prog w) A (pyIter (.ref I)) Q E s
end
section
variable {prog : Program} {w : World} {A : Around} {K : Heap} {x : Str} {px : Pos} {I : Addr} {fp wr : List Addr}
theorem Src.ofWalks {n : Nat} {P : Nat → Value → Prop} {Si : Nat → Heap → Prop} {ps : List PV} (W : Walks prog w A I fp wr n P Si) (hn : ps.length = n) (hP : ∀ i v, P i v → ∃ p, ps[i]? = some p ∧ Den K v p)
    (old : ∀ b ∈ fp, b ∈ wr ∨ ∃ o, K.get? b = some o) (live : ∀ i h, Si i h → ∀ b ∈ fp, ∃ o, h.get? b = some o) : Src prog w A K (.Name x px) [x] I fp wr (ps.map fun p => [p]) Si where
  sub := W.sub
  old := old
  live := live
  frame := W.frame
  next := fun i its G c env ρ ρ' R h g d t o Q E hi hs u F off U lc k => by
    have hlt : i < n := by
      rw [← hn]
      have := (List.getElem?_eq_some_iff.mp hi).1
      simpa using this
    refine W.item i _ _ _ hlt hs fun v h₁ t₁ hv hs₁ kk => ⟨v, rfl, wpAny_pure (?_ : wpAny _ _ (assign (.Name x px) env v) _ _ _)⟩
    obtain ⟨p, hp, dp⟩ := hP i v hv
    have hits : its = [p] := by rw [List.getElem?_map, hp] at hi; simpa using hi.symm
    subst hits
    cases U with
    | cons U1 U2 =>
      cases U2
      have F1 : Fr G c env ρ R h₁ := F.away off (fun a o' n e => kk a o' n e)
      obtain ⟨G', gf, F2, back, keep⟩ := F1.rebase off fun b hb => live _ _ hs₁ b (W.sub b hb)
      refine wpAny_assign_Name (F2.stn U1 (Den.up u _ dp) ?_ fun h₂ t₂ F3 => ?_)
      · rw [gf]; rcases lc with lc | lc
        · exact .inl lc
        · exact .inr (lc x (by simp))
      · refine k _ _ (W.frame _ _ _ hs₁ fun b hb o' e => ?_) (back _ _ _ _ F3).1
        rcases old b hb with q | ⟨o2, q⟩
        · exact (keep _ _ _ _ F3).2 b q o' e
        · have e1 := F1.up b _ (u b _ q)
          have e2 := F3.up b _ (u b _ q)
          rw [e1] at e; cases e; exact e2
  done := fun G c env ρ R h g d t o Q E hs u F off k => by
    refine W.done _ _ _ (by simpa [hn] using hs) fun h₁ t₁ kk => k _ _ (F.away off fun a o' n e => kk a o' n e)
  self := W.self
end
end Mine
namespace Mine
open PySem PySem.W PyProof.Rows
section
variable {prog : Program} {w : World} {A : Around} {K c c' h h' : Heap} {G : Org} {env : Env} {ρ ρ' : Vars} {R R' : Led} {E : Value → Shared → Prop} {g : Array GenState} {d : Drawn} {t : Nat} {o : OsState}
theorem r_forP {α : Type} {target : Expr} {xs : List Str} {I : Addr} {fp wr : List Addr} {items : List (List PV)} {Si : Nat → Heap → Prop} {body : List Stmt} {Q : Flow → Shared → Prop}
    (S : Src prog w A K target xs I fp wr items Si) (V : α → Vars) (V1 : α → List PV → Vars) (RR : α → Led) (J : Nat → α → Heap → Prop) (y0 : α) (F : Fr G c env (V y0) (RR y0) h) (off : Off G c env (RR y0) wr) (u : Up K c) (j0 : J 0 y0 c) (hs : Si 0 h)
    (lc : G.fn = true ∨ ∀ x ∈ xs, env.kindOf x = some .local) (hput : ∀ y its, its ∈ items → PutsP xs its (V y) (V1 y its))
    (turn : ∀ i its G' c y h t, items[i]? = some its → G'.fn = G.fn → Up K c → J i y c → Fr G' c env (V1 y its) (RR y) h → (∀ c' ρ' R' h', Fr G' c' env ρ' R' h' → Fr G c' env ρ' R' h' ∧ Up c c') →
      wpAny (model prog w) A (execs body env) (fun f s₃ => match f with
        | .next | .cont => ∃ c' y' h' t', J (i + 1) y' c' ∧ Fr G' c' env (V y') (RR y') h' ∧ s₃ = ⟨h', g, d, t', o⟩
        | .brk => Q .next s₃
        | .ret v => Q (.ret v) s₃) (fun _ _ => False) ⟨h, g, d, t, o⟩)
    (fin : ∀ c y h t, Up K c → J items.length y c → Fr G c env (V y) (RR y) h → Q .next ⟨h, g, d, t, o⟩) :
    codeAny (model prog w) A (.forLoop target (.ref I) body [] env) (fun r s' => match r with | .ok f => Q f s' | .error e => cameBackBy (model prog w) A env E e s') ⟨h, g, d, t, o⟩ := by
  refine codeAny_forLoop_any (fun k s => ∃ i y c h t, k = items.length - i ∧ i ≤ items.length ∧ Up K c ∧ J i y c ∧ Fr G c env (V y) (RR y) h ∧ Off G c env (RR y) wr ∧ Si i h ∧ s = ⟨h, g, d, t, o⟩) ?_ items.length ⟨0, y0, c, h, t, rfl, Nat.zero_le _, u, j0, F, off, hs, rfl⟩
  rintro k s ⟨i, y, c, h, t, rfl, hin, u, hj, F, off, hs, rfl⟩
  by_cases hlt : i < items.length
  · have hits : items[i]? = some items[i] := List.getElem?_eq_getElem hlt
    refine wpAny_mono (S.next i items[i] G c env _ _ _ h g d t o (fun _ s₂ => wpAny (model prog w) A (execs body env) (fun f s₃ => match f with
            | .next | .cont => ∃ m, m < items.length - i ∧ ∃ i y c h t, m = items.length - i ∧ i ≤ items.length ∧ Up K c ∧ J i y c ∧ Fr G c env (V y) (RR y) h ∧ Off G c env (RR y) wr ∧ Si i h ∧ s₃ = ⟨h, g, d, t, o⟩
            | .brk => Q .next s₃
            | .ret v => Q (.ret v) s₃) (notedBy (model prog w) A env fun e s' => cameBackBy (model prog w) A env E e s') s₂) (notedBy (model prog w) A env fun e s' => cameBackBy (model prog w) A env E e s') hits hs u F off (hput y _ (List.mem_of_getElem? hits)) lc ?_) ?_ (fun _ _ q => q)
    · intro h₂ t₂ hs₂ F₂
      obtain ⟨G', gf, F3, back, keep⟩ := F₂.rebase off fun b hb => S.live _ _ hs₂ b (S.sub b hb)
      refine wpAny_mono (turn i _ G' c y h₂ t₂ hits gf u hj F3 back) (fun f s₃ hs₃ => ?_) fun _ _ q => q.elim
      have go : ∀ c' y' h' t', J (i + 1) y' c' → Fr G' c' env (V y') (RR y') h' → s₃ = ⟨h', g, d, t', o⟩ →
          ∃ m, m < items.length - i ∧ ∃ i y c h t, m = items.length - i ∧ i ≤ items.length ∧ Up K c ∧ J i y c ∧ Fr G c env (V y) (RR y) h ∧ Off G c env (RR y) wr ∧ Si i h ∧ s₃ = ⟨h, g, d, t, o⟩ := by
        intro c' y' h' t' j' F' e
        obtain ⟨b1, b2⟩ := back _ _ _ _ F'
        obtain ⟨k1, k2⟩ := keep _ _ _ _ F'
        refine ⟨items.length - (i + 1), by lia, i + 1, y', c', h', t', rfl, hlt, u.trans b2, j', b1, k1, S.frame _ _ _ hs₂ fun b hb ob e => ?_, e⟩
        rcases S.old b hb with q | ⟨o2, q⟩
        · exact k2 b q ob e
        · have e1 := F₂.up b _ (u b _ q)
          have e2 := F'.up b _ (b2 b _ (u b _ q))
          rw [e1] at e; cases e; exact e2
      cases f with
      | next => obtain ⟨c', y', h', t', j', F', e⟩ := hs₃; exact go c' y' h' t' j' F' e
      | cont => obtain ⟨c', y', h', t', j', F', e⟩ := hs₃; exact go c' y' h' t' j' F' e
      | brk => exact hs₃
      | ret v => exact hs₃
    · rintro r s₁ ⟨v, rfl, q⟩; exact q
  · have : i = items.length := by lia
    subst this
    exact S.done G c env _ _ h g d t o _ _ hs u F off fun h₁ t₁ F₁ => wpAny_execs_nil (fin c y h₁ t₁ u hj F₁)

/-! comprehensions -/
noncomputable def compIfs (ifs : List Expr) (env : Env) : Sem Bool := forIn ifs true fun c r => if r = true then do let ok ← isTrue c env (eval c env); pure (ForInStep.yield ok) else pure (ForInStep.yield r)
noncomputable def emit (elt : Expr) (acc : Value) (env : Env) : Sem Unit := do let _ ← call (.builtin "list.append") [acc, ← eval elt env]
end
end Mine
namespace Mine
open PySem PySem.W PyProof.Rows
section
variable {prog : Program} {w : World} {A : Around} {K c c' h h' : Heap} {G : Org} {env cenv : Env} {ρ ρ' caps : Vars} {R R' : Led} {g : Array GenState} {d : Drawn} {t : Nat} {o : OsState}

theorem Fr.append {a : Addr} {ps : List PV} {p : PV} {v : Value} {Q E : Value → Shared → Prop} (F : Fr G c env ρ R h) (m : (a, ps) ∈ R) (U : RepP a (ps ++ [p]) R R') (dv : Den c v p) (hz : ps.length < 1000000)
    (k : ∀ h', Fr G c env ρ R' h' → Q .none ⟨h', g, d, t, o⟩) : wpAny (model prog w) A (call (.builtin "list.append") [.ref a, v]) Q E ⟨h, g, d, t, o⟩ := by
  obtain ⟨xs, hl, dl⟩ := F.lst m
  refine wpAny_list_append_plain hl (fun h' hl' hs => k h' (F.upd U (fun b o' n e => by rw [hs.2 b (by simpa using n)]; exact e) (xs := xs ++ [v]) (by simpa using hl') (dl.append (.one dv)))) ?_
  have := dl.length
  rw [sizeLine_eq]; simp; lia

noncomputable def turnX (iter target : Expr) (ifs : List Expr) (it : Value) (env : Env) (ag X : Sem PySem.Fin) : Sem PySem.Fin := do
  standAt iter.pos
  match ← pyNext it with
  | none => pure (.done .next)
  | some v =>
    letOwnedTupleGo target it v
    assign target env v
    let ok ← compIfs ifs env
    if ok then X else ag
theorem turn1X (elt target iter : Expr) (ifs : List Expr) (scope : Scope) (pos : Pos) (it acc : Value) (env : Env) :
    compTurn (.ListComp elt [⟨target, iter, ifs, 0⟩] scope pos) 0 it acc env = turnX iter target ifs it env (again (.compLoop (.ListComp elt [⟨target, iter, ifs, 0⟩] scope pos) 0 it acc env)) (emit elt acc env >>= fun _ => again (.compLoop (.ListComp elt [⟨target, iter, ifs, 0⟩] scope pos) 0 it acc env)) := rfl
theorem turn2bX (elt target iter : Expr) (ifs : List Expr) (g : Comprehension) (scope : Scope) (pos : Pos) (it acc : Value) (env : Env) :
    compTurn (.ListComp elt [g, ⟨target, iter, ifs, 0⟩] scope pos) 1 it acc env = turnX iter target ifs it env (again (.compLoop (.ListComp elt [g, ⟨target, iter, ifs, 0⟩] scope pos) 1 it acc env)) (emit elt acc env >>= fun _ => again (.compLoop (.ListComp elt [g, ⟨target, iter, ifs, 0⟩] scope pos) 1 it acc env)) := rfl
noncomputable def inX (e iter2 : Expr) (it acc : Value) (env : Env) : Sem PySem.Fin := do
  let x ← eval iter2 env
  standAt iter2.pos
  let x ← foldedSetIterable iter2 env x
  let _ ← runOwn (.compStart e 1 (← holding [x] (pyIter x)) acc env) env
  again (.compLoop e 0 it acc env)
theorem turn2aX (elt target iter target2 iter2 : Expr) (ifs ifs2 : List Expr) (scope : Scope) (pos : Pos) (it acc : Value) (env : Env) :
    compTurn (.ListComp elt [⟨target, iter, ifs, 0⟩, ⟨target2, iter2, ifs2, 0⟩] scope pos) 0 it acc env =
      turnX iter target ifs it env (again (.compLoop (.ListComp elt [⟨target, iter, ifs, 0⟩, ⟨target2, iter2, ifs2, 0⟩] scope pos) 0 it acc env)) (inX (.ListComp elt [⟨target, iter, ifs, 0⟩, ⟨target2, iter2, ifs2, 0⟩] scope pos) iter2 it acc env) := rfl

/-- tests of a clause -/
noncomputable def EvI (prog : Program) (w : World) (A : Around) (K : Heap) (env : Env) (ρ : Vars) (R : Led) (ifs : List Expr) (b : Bool) : Prop := ∀ (G : Org) (c h : Heap), Up K c → Fr G c env ρ R h → PuB prog w A c h (compIfs ifs env) b
theorem evi_nil : EvI prog w A K env ρ R [] true := fun _ _ _ _ F _ _ _ _ _ _ k => wpAny_pure (k _ _ _ (.refl F.up))
theorem evi_one {e : Expr} {b : Bool} (x : EvB prog w A K env ρ R e b) : EvI prog w A K env ρ R [e] b := fun _ _ _ u F _ _ _ _ _ _ k => by
  unfold compIfs
  rw [List.forIn_cons]
  simp only [if_true]
  refine wpAny_bind (wpAny_bind (x.use u F fun c' h' t' x' F' => wpAny_pure ?_))
  exact wpAny_pure (k _ _ _ x')

theorem comp_loop {elt target iter : Expr} {ifs : List Expr} {gens : List Comprehension} {scope : Scope} {pos : Pos} {depth : Nat} {xs : List Str} {I D : Addr} {fp wr : List Addr} {items : List (List PV)} {Si : Nat → Heap → Prop} {ps0 : List PV} {ops0 : List (Option PV)} {RR : Result → Shared → Prop}
    (hg : ∀ it acc, compTurn (.ListComp elt gens scope pos) depth it acc cenv = turnX iter target ifs it cenv (again (.compLoop (.ListComp elt gens scope pos) depth it acc cenv)) (emit elt acc cenv >>= fun _ => again (.compLoop (.ListComp elt gens scope pos) depth it acc cenv)))
    (S : Src prog w A K target xs I fp wr items Si) (V : List (Option PV) → Vars) (hV : ∀ ops its, ops.length = xs.length → its ∈ items → PutsP xs its (V ops) (V (its.map some)) ∧ its.length = xs.length)
    (lc : G.fn = true ∨ ∀ x ∈ xs, cenv.kindOf x = some .local) (keep : Nat → Bool) (J : Nat → List PV → Heap → Prop) (Jup : ∀ i ys c c', Up c c' → J i ys c → J i ys c')
    (u : Up K c) (hl0 : ops0.length = xs.length) (F : Fr G c cenv (V ops0) [(D, ps0)] h) (off : Off G c cenv [(D, ps0)] wr) (hs : Si 0 h) (j0 : J 0 ps0 c)
    (tests : ∀ (i : Nat) its ys, items[i]? = some its → EvI prog w A K cenv (V (its.map some)) [(D, ys)] ifs (keep i))
    (skip : ∀ i its ys c, items[i]? = some its → keep i = false → J i ys c → J (i + 1) ys c)
    (elt_ : ∀ i its ys G c h g d t o (Q E : Value → Shared → Prop), items[i]? = some its → keep i = true → J i ys c → Up K c → Fr G c cenv (V (its.map some)) [(D, ys)] h →
      (∀ c' v p h' t', Ext [] c h c' h' → Den c' v p → J (i + 1) (ys ++ [p]) c' → Q v ⟨h', g, d, t', o⟩) → wpAny (model prog w) A (eval elt cenv) Q E ⟨h, g, d, t, o⟩)
    (hz : ∀ i ys c, J i ys c → ys.length < 1000000)
    (fin : ∀ c' ops ys h' t', ops.length = xs.length → Up c c' → J items.length ys c' → Fr G c' cenv (V ops) [(D, ys)] h' → Off G c' cenv [(D, ys)] wr → RR (.ok .next) ⟨h', g, d, t', o⟩) :
    codeAny (model prog w) A (.compLoop (.ListComp elt gens scope pos) depth (.ref I) (.ref D) cenv) RR ⟨h, g, d, t, o⟩ := by
  have offR : ∀ {c : Heap} {ys zs : List PV}, Off G c cenv [(D, ys)] wr → Off G c cenv [(D, zs)] wr := fun x b hb => x b hb
  refine codeAny_loop rfl (fun k s => ∃ i c' ops ys h t, k = items.length - i ∧ i ≤ items.length ∧ ops.length = xs.length ∧ Up c c' ∧ J i ys c' ∧ Fr G c' cenv (V ops) [(D, ys)] h ∧ Off G c' cenv [(D, ys)] wr ∧ Si i h ∧ s = ⟨h, g, d, t, o⟩) ?_ items.length ⟨0, c, ops0, ps0, h, t, rfl, Nat.zero_le _, hl0, .refl _, j0, F, off, hs, rfl⟩
  rintro k s ⟨i, c1, ops, ys, h, t, rfl, hin, hl, uc, hj, F, off, hs, rfl⟩
  show wpAny _ A ((compTurn (.ListComp elt gens scope pos) depth (.ref I) (.ref D) cenv).onRaise (fun x => do noteFrame x cenv; theTreesLotGoes x)) _ _ _
  refine wpAny_noted ?_
  rw [hg]
  unfold turnX
  refine wpAny_bind (wpAny_standAt (wpAny_bind ?_))
  have u1 := u.trans uc
  by_cases hlt : i < items.length
  · have hits : items[i]? = some items[i] := List.getElem?_eq_getElem hlt
    have hmem : items[i] ∈ items := List.getElem_mem hlt
    obtain ⟨pu, hil⟩ := hV ops _ hl hmem
    generalize items[i] = its at hits hmem pu hil
    refine wpAny_mono (S.next i its G c1 cenv _ _ _ h g d t o (fun _ s₂ => wpAny (model prog w) A (do
        let ok ← compIfs ifs cenv
        if ok then (emit elt (.ref D) cenv >>= fun _ => again (.compLoop (.ListComp elt gens scope pos) depth (.ref I) (.ref D) cenv)) else again (.compLoop (.ListComp elt gens scope pos) depth (.ref I) (.ref D) cenv))
      (fun fin s' => match fin with | .done f => RR (.ok f) s' | .again c' => c' = .compLoop (.ListComp elt gens scope pos) depth (.ref I) (.ref D) cenv ∧ ∃ m, m < items.length - i ∧ ∃ i c' ops ys h t, m = items.length - i ∧ i ≤ items.length ∧ ops.length = xs.length ∧ Up c c' ∧ J i ys c' ∧ Fr G c' cenv (V ops) [(D, ys)] h ∧ Off G c' cenv [(D, ys)] wr ∧ Si i h ∧ s' = ⟨h, g, d, t, o⟩)
      (notedBy (model prog w) A cenv fun e s' => RR (.error e) s') s₂) (notedBy (model prog w) A cenv fun e s' => RR (.error e) s') hits hs u1 F off pu lc ?_) ?_ (fun _ _ q => q)
    · intro h₂ t₂ hs₂ F₂
      obtain ⟨G', gf, F3, back, kp⟩ := F₂.rebase off fun b hb => S.live _ _ hs₂ b (S.sub b hb)
      have step : ∀ {c' ρ' R' h'}, Fr G' c' cenv ρ' R' h' → Si (i + 1) h' := fun {c' ρ' R' h'} F' => by
        refine S.frame _ _ _ hs₂ fun b hb ob e => ?_
        rcases S.old b hb with q | ⟨o2, q⟩
        · exact (kp _ _ _ _ F').2 b q ob e
        · have e1 := F₂.up b _ (u1 b _ q)
          have e2 := F'.up b _ ((back _ _ _ _ F').2 b _ (u1 b _ q))
          rw [e1] at e; cases e; exact e2
      refine wpAny_bind (tests i its ys hits G' c1 h₂ u1 F3 _ _ _ _ _ _ fun c2 h3 t3 x2 => ?_)
      have F4 := F3.ext x2
      cases hk : keep i with
      | false =>
        simp only [Bool.false_eq_true, if_false]
        exact wpAny_pure ⟨rfl, items.length - (i + 1), by lia, i + 1, c2, its.map some, ys, h3, t3, rfl, hlt, by simpa using hil, uc.trans x2.cc, skip i its ys c2 hits hk (Jup _ _ _ _ x2.cc hj), (back _ _ _ _ F4).1, offR (kp _ _ _ _ F4).1, step F4, rfl⟩
      | true =>
        simp only [if_true]
        refine wpAny_bind ?_
        unfold emit
        refine wpAny_bind (elt_ i its ys G' c2 h3 g d t3 o _ _ hits hk (Jup _ _ _ _ x2.cc hj) (u1.trans x2.cc) F4 fun c3 v p h4 t4 x3 dv j3 => ?_)
        refine wpAny_bind ((F4.ext x3).append (.head _) .head dv (hz _ _ _ hj) fun h5 F5 => wpAny_pure (wpAny_pure ?_))
        exact ⟨rfl, items.length - (i + 1), by lia, i + 1, c3, its.map some, ys ++ [p], h5, t4, rfl, hlt, by simpa using hil, (uc.trans x2.cc).trans x3.cc, j3, (back _ _ _ _ F5).1, offR (kp _ _ _ _ F5).1, step F5, rfl⟩
    · rintro r s₁ ⟨v, rfl, q⟩; exact wpAny_bind (wpAny_mono q (fun _ _ q => wpAny_bind q) fun _ _ q => q)
  · have : i = items.length := by lia
    subst this
    exact S.done G c1 cenv _ _ h g d t o _ _ hs u1 F off fun h₁ t₁ F₁ => wpAny_pure (fin c1 ops ys h₁ t₁ hl uc hj F₁ off)
end
end Mine
namespace Mine
open PySem PySem.W PyProof.Rows
section
variable {prog : Program} {w : World} {A : Around} {K c c' h h' : Heap} {G : Org} {env cenv : Env} {ρ ρ' caps : Vars} {R R' : Led} {g : Array GenState} {d : Drawn} {t : Nat} {o : OsState}

theorem lookup_mapK (f : Str → NameKind → NameKind) : ∀ (l : List (Str × NameKind)) (x : Str), (l.map fun (n, k) => (n, f n k)).lookup x = (l.lookup x).map (f x)
  | [], _ => rfl
  | (n, k) :: l, x => by
    rw [List.map_cons, List.lookup_cons, List.lookup_cons]
    cases e : x == n with
    | true => rw [beq_iff_eq.mp e]; rfl
    | false => exact lookup_mapK f l x
theorem relabel_lookup (scope : Scope) (env : Env) (x : Str) : (relabel scope env).names.lookup x = (scope.names.lookup x).map fun k => if (k == NameKind.free && env.scope.kind == .function && env.kindOf x == some .cell) then .cell else k := by
  rw [← lookup_mapK fun x k => if (k == NameKind.free && env.scope.kind == .function && env.kindOf x == some .cell) then .cell else k]
  unfold relabel
  congr 1
  apply List.map_congr_left
  rintro ⟨n, k⟩ _
  dsimp only
  split <;> rfl
theorem closure_ok (env : Env) : ∀ (names : List (Str × NameKind)) (acc : List (Str × Addr)), (∀ y ∈ names, y.2 = .free → ∃ a, env.cells.lookup y.1 = some a) →
    ∃ cl, (forIn names acc fun (x : Str × NameKind) (cs : List (Str × Addr)) => (if (x.2 == NameKind.free) = true then do
        let a ← cellOf env x.1
        pure (ForInStep.yield ((x.1, a) :: cs)) else pure (ForInStep.yield cs) : Sem (ForInStep (List (Str × Addr))))) = (pure cl : Sem (List (Str × Addr))) ∧
      (∀ x b, cl.lookup x = some b → acc.lookup x = some b ∨ (env.cells.lookup x = some b ∧ (x, NameKind.free) ∈ names)) ∧
      (∀ x, acc.lookup x = env.cells.lookup x → cl.lookup x = env.cells.lookup x) ∧ ∀ y ∈ names, y.2 = .free → cl.lookup y.1 = env.cells.lookup y.1
  | [], acc, _ => ⟨acc, by rw [List.forIn_nil], fun _ _ e => .inl e, fun _ e => e, fun y hy => by cases hy⟩
  | (n, k) :: names, acc, hf => by
    have hf' : ∀ y ∈ names, y.2 = .free → ∃ a, env.cells.lookup y.1 = some a := fun y hy => hf y (.tail _ hy)
    by_cases hk : k = .free
    · subst hk
      obtain ⟨a, ha⟩ := hf (n, .free) (.head _) rfl
      obtain ⟨cl, e, h1, h2, h3⟩ := closure_ok env names ((n, a) :: acc) hf'
      have self : List.lookup n ((n, a) :: acc) = env.cells.lookup n := by simp [ha]
      refine ⟨cl, ?_, fun x b q => ?_, fun x q => h2 x ?_, fun y hy q => ?_⟩
      · rw [List.forIn_cons, ← e]
        simp only [cellOf, ha]
        rfl
      · rcases h1 x b q with q | ⟨q, r⟩
        · rw [List.lookup_cons] at q
          cases hx : x == n with
          | true => rw [hx] at q; rw [beq_iff_eq.mp hx]; exact .inr ⟨by rw [ha]; exact q, .head _⟩
          | false => rw [hx] at q; exact .inl q
        · exact .inr ⟨q, .tail _ r⟩
      · rw [List.lookup_cons]
        cases hx : x == n with
        | true => rw [beq_iff_eq.mp hx, ha]
        | false => exact q
      · rcases List.mem_cons.mp hy with rfl | hy
        · exact h2 _ self
        · exact h3 y hy q
    · obtain ⟨cl, e, h1, h2, h3⟩ := closure_ok env names acc hf'
      refine ⟨cl, ?_, fun x b q => ?_, h2, fun y hy q => ?_⟩
      · rw [List.forIn_cons, ← e]
        have : (k == NameKind.free) = false := by simpa using hk
        simp only [this]
        rfl
      · rcases h1 x b q with q | ⟨q, r⟩
        · exact .inl q
        · exact .inr ⟨q, .tail _ r⟩
      · rcases List.mem_cons.mp hy with rfl | hy
        · exact absurd q hk
        · exact h3 y hy q
theorem closure_for {scope : Scope} (hf : ∀ y ∈ scope.names, y.2 = .free → ∃ a, env.cells.lookup y.1 = some a) : ∃ cl, closureFor scope env = pure cl ∧ (∀ x b, cl.lookup x = some b → env.cells.lookup x = some b ∧ (x, NameKind.free) ∈ scope.names) ∧
    ∀ y ∈ scope.names, y.2 = .free → cl.lookup y.1 = env.cells.lookup y.1 := by
  obtain ⟨cl, e, h1, _, h3⟩ := closure_ok env scope.names [] hf
  refine ⟨cl, ?_, fun x b q => ?_, h3⟩
  · unfold closureFor
    have : ∀ (x : Str × NameKind) (cs : List (Str × Addr)), (if (x.2 == NameKind.free) = true then do
        let a ← cellOf env x.1
        pure (ForInStep.yield ((x.1, a) :: cs)) else pure (ForInStep.yield cs) : Sem (ForInStep (List (Str × Addr)))) = (match x with
        | (name, kind) => do
          if (kind == NameKind.free) = true then do
              let a ← cellOf env name
              pure (ForInStep.yield ((name, a) :: cs))
            else pure (ForInStep.yield cs)) := fun ⟨_, _⟩ _ => rfl
    show (forIn scope.names ([] : List (Str × Addr)) _ >>= fun cs => pure cs) = _
    have e2 : (forIn scope.names ([] : List (Str × Addr)) (fun (x : Str × NameKind) (cs : List (Str × Addr)) => (match x with
        | (name, kind) => do
          if (kind == NameKind.free) = true then do
              let a ← cellOf env name
              pure (ForInStep.yield ((name, a) :: cs))
            else pure (ForInStep.yield cs) : Sem (ForInStep (List (Str × Addr)))))) = (pure cl : Sem (List (Str × Addr))) := by
      rw [← e]
    rw [e2]; rfl
  · rcases h1 x b q with q | q
    · simp at q
    · exact q

/-- a comprehension's block: tgts its own names, caps what it sees of the frame, gs the top's names -/
noncomputable def compOk (sc scope : Scope) (tgts caps gs : List Str) : Bool :=
  (scope.kind == .function) && (sc.kind == .function) && (scope.names.all fun y => y.2 != .cell) && (scope.names.all fun y => !(y.2 == .local) || (scope.names.lookup y.1 == some .local)) &&
  (tgts.all fun x => (scope.names.lookup x == some .local) && !(x == ("__debug__" : Str))) && decide ((tgts ++ caps).Nodup) &&
  (caps.all fun x => (scope.names.lookup x == some .free) && (sc.names.lookup x == some .cell) && !(x == ("__debug__" : Str))) &&
  (scope.names.all fun y => !(y.2 == .free) || caps.contains y.1) && (gs.all fun x => (scope.names.lookup x == some .globalImplicit) && !(x == ("__debug__" : Str)))

theorem Ext.add {c h c' h' : Heap} (x : Ext [] c h c' h') {a : Addr} {o : Obj} (n : h.get? a = none) (e : h'.get? a = some o) : ∃ c'', Ext [] c h c'' h' ∧ Up c' c'' ∧ c''.get? a = some o ∧ ∀ b, b ≠ a → c'.get? b = none → c''.get? b = none := by
  have hk : ∀ b ob, b = a ∨ c'.get? b = some ob → h'.get? b = some ob → (hideAll h' ((List.range h'.objs.size).filter fun b => b != a && (c'.get? b).isNone)).get? b = some ob := fun b ob q e' => by
    refine hideAll_get _ e' fun z => ?_
    have z2 := (List.mem_filter.mp z).2
    rcases q with q | q
    · subst q; simp at z2
    · rw [q] at z2; simp at z2
  refine ⟨hideAll h' ((List.range h'.objs.size).filter fun b => b != a && (c'.get? b).isNone), ⟨fun b o' e' => hk b o' (.inr (x.cc _ _ e')) (x.ch _ _ (x.cc _ _ e')), fun b o' e' => of_hideAll _ e', x.hh, x.lv, fun b o' e' => ?_⟩, fun b o' e' => hk b o' (.inr e') (x.ch _ _ e'), hk a o (.inl rfl) e, fun b nb q => ?_⟩
  rotate_left
  · cases e3 : (hideAll h' ((List.range h'.objs.size).filter fun b => b != a && (c'.get? b).isNone)).get? b with
    | none => rfl
    | some o3 =>
      have : (hideAll h' ((List.range h'.objs.size).filter fun b => b != a && (c'.get? b).isNone)).get? b = none := hideAll_none _ (List.mem_filter.mpr ⟨List.mem_range.mpr (Heap.lt_size (of_hideAll _ e3)), by simp [nb, q]⟩)
      rw [this] at e3; cases e3
  by_cases hb : b = a
  · subst hb; exact .inr n
  · have e2 := of_hideAll _ e'
    cases q : c'.get? b with
    | some o2 =>
      have := x.ch _ _ q
      rw [e2] at this; cases this
      exact x.nw b _ q
    | none =>
      exfalso
      have : (hideAll h' ((List.range h'.objs.size).filter fun b => b != a && (c'.get? b).isNone)).get? b = none := hideAll_none _ (List.mem_filter.mpr ⟨List.mem_range.mpr (Heap.lt_size e2), by simp [hb, q]⟩)
      rw [e'] at this; cases this

structure CEnv (env cenv : Env) (gs xs : List Str) : Prop where
  g : cenv.globals = env.globals
  b : cenv.builtins = env.builtins
  k : ∀ x ∈ gs, cenv.kindOf x = some .globalImplicit ∧ (x == ("__debug__" : Str)) = false
  l : ∀ x ∈ xs, cenv.kindOf x = some .local
theorem CEnv.gk {gs xs : List Str} {g0 : List Str} (C : CEnv env cenv gs xs) (k : GK env g0) : GK cenv gs := ⟨C.g.trans k.g, C.b.trans k.b, C.k⟩

/-- what the comprehension's block starts with -/
theorem comp_setup {sc scope : Scope} {xs gs : List Str} {I : Addr} {wr : List Addr} {c1 h1 : Heap} {RR : Value → Env → Result → Shared → Prop} {E : Value → Shared → Prop} {e : Expr} {it : Value} {cl : List (Str × Addr)}
    (F : Fr G c env ρ R h) (hsc : env.scope = sc) (ok : compOk sc scope xs (caps.map (·.1)) gs = true) (hcap : ∀ q ∈ caps, q ∈ ρ ∧ q.2.isSome = true)
    (hcl : (∀ x b, cl.lookup x = some b → env.cells.lookup x = some b ∧ (x, NameKind.free) ∈ scope.names) ∧ ∀ y ∈ scope.names, y.2 = .free → cl.lookup y.1 = env.cells.lookup y.1)
    (x1 : Ext [] c h c1 h1) (hw : ∀ b ∈ wr, h.get? b = none ∧ c1.get? b = none) (hlv : ∀ b ∈ wr, ∃ o, h1.get? b = some o)
    (k : ∀ cenv D h2 t2, CEnv env cenv gs xs → Up h1 h2 → h.get? cenv.locals = none → c1.get? cenv.locals = none → h.get? D = none → D ≠ cenv.locals →
        Fr ⟨c, h, [], false⟩ c1 cenv (xs.map (fun x => (x, none)) ++ caps) [(D, [])] h2 → Off ⟨c, h, [], false⟩ c1 cenv [(D, [])] wr →
        codeAny (model prog w) A (.compStart e 0 it (.ref D) cenv) (RR (.ref D) cenv) ⟨h2, g, d, t2, o⟩) :
      wpAny (model prog w) A (newList []) (fun acc s₃ => wpAny (model prog w) A (newFunctionEnv scope env.globals cl [] env.qual none .none (some env)) (fun cenv s₄ =>
        codeAny (model prog w) A (.compStart e 0 it acc { cenv with scope := relabel scope env }) (RR acc { cenv with scope := relabel scope env }) s₄) E s₃) E ⟨h1, g, d, t, o⟩ := by
  simp only [compOk, Bool.and_eq_true, decide_eq_true_eq, beq_iff_eq, List.all_eq_true, Bool.not_eq_true', Bool.or_eq_true, List.contains_iff_mem, bne_iff_ne, ne_eq, Bool.not_eq_eq_eq_not, Bool.not_true, beq_eq_false_iff_ne] at ok
  obtain ⟨⟨⟨⟨⟨⟨⟨⟨k1, k2⟩, k3⟩, k4⟩, k5⟩, k6⟩, k7⟩, k8⟩, k9⟩ := ok
  have up1 : Up h h1 := x1.up
  refine wpAny_newObj_type (wpAny_newFunctionEnv (fun y hy => k3 y hy) (by intro y hy; simp at hy) (fun h2 hns hsb => ?_) k1)
  dsimp only at hns hsb ⊢
  generalize hH : h1.push { cls := .type "list", dict := none, data := .seq ([] : List Value).toArray } = H at hns hsb ⊢
  have hC : H.objs.size = h1.objs.size + 1 := by rw [← hH, Heap.size_push]
  have fresh : ∀ (a : Addr), h1.objs.size ≤ a → h1.get? a = none := fun a ha => by
    cases e : h1.get? a with
    | none => rfl
    | some o' => exact absurd (Heap.lt_size e) (Nat.not_lt.mpr ha)
  have fresh0 : ∀ (a : Addr), h1.objs.size ≤ a → h.get? a = none := fun a ha => by
    cases e : h.get? a with
    | none => rfl
    | some o' => have := up1 _ _ e; rw [fresh a ha] at this; cases this
  have freshc : ∀ (a : Addr), h1.objs.size ≤ a → c1.get? a = none := fun a ha => by
    cases e : c1.get? a with
    | none => rfl
    | some o' => have := x1.ch _ _ e; rw [fresh a ha] at this; cases this
  have up2 : Up h1 h2 := fun b ob e => hsb.extBut b ob (by rw [hC]; exact Nat.ne_of_lt (Nat.lt_succ_of_lt (Heap.lt_size e))) (Heap.get?_push_of_some _ (hH ▸ Heap.get?_push_of_some _ e))
  have hCD : h1.objs.size ≠ H.objs.size := by rw [hC]; exact Nat.ne_of_lt (Nat.lt_succ_self _)
  have lD : h2.PlainList h1.objs.size ([] : List Value).toArray := ⟨0, hsb.extBut _ _ hCD (Heap.get?_push_of_some _ (hH ▸ Heap.get?_push_size _ rfl))⟩
  obtain ⟨pl, FP⟩ := F
  have kindC : ∀ x, (compEnvC scope cl H.objs.size env).kindOf x = (scope.names.lookup x).map fun k => if (k == NameKind.free && env.scope.kind == .function && env.kindOf x == some .cell) then .cell else k := fun x => relabel_lookup scope env x
  have capAt : ∀ q ∈ caps, ∃ a v p, env.cells.lookup q.1 = some a ∧ env.kindOf q.1 = some .cell ∧ h.IsCell a (some v) ∧ q.2 = some p ∧ Den c v p := fun q hq => by
    obtain ⟨hm, hs⟩ := hcap q hq
    obtain ⟨p, hp⟩ := Option.isSome_iff_exists.mp hs
    have k7' := (k7 q.1 (List.mem_map_of_mem hq)).1.2
    have hk : env.kindOf q.1 = some .cell := by unfold Env.kindOf; rw [hsc]; exact k7'
    have := (FP.vars q hm).2
    revert this
    cases pl q.1 with
    | loc => rintro ⟨z, _⟩; rw [hk] at z; cases z
    | own a => rintro ⟨_, l, ov, hc, hv⟩; obtain ⟨v, rfl, dv⟩ := hv p hp; exact ⟨a, v, p, l, hk, hc, hp, dv⟩
    | fro a => rintro ⟨_, l, _, v, p', hc, e, dv⟩; exact ⟨a, v, p', l, hk, hc, e, dv⟩
  have tg : ∀ x ∈ xs, (compEnvC scope cl H.objs.size env).kindOf x = some .local := fun x hx => by
    rw [kindC, (k5 x hx).1]; rfl
  refine k (compEnvC scope cl H.objs.size env) h1.objs.size h2 _ ⟨rfl, rfl, fun x hx => ?_, tg⟩ up2 (fresh0 _ (by show _ ≤ H.objs.size; rw [hC]; exact Nat.le_succ _)) (freshc _ (by show _ ≤ H.objs.size; rw [hC]; exact Nat.le_succ _)) (fresh0 _ (Nat.le_refl _)) hCD ?_ ?_
  · have := k9 x hx
    refine ⟨?_, beq_eq_false_iff_ne.mpr this.2⟩
    rw [kindC, this.1]; rfl
  · refine ⟨fun x => if x ∈ xs then .loc else .fro ((env.cells.lookup x).getD 0), ?_⟩
    have noOwn : ∀ {a : Addr} {ob : Obj}, h.get? a = some ob → ¬ Own (fun x => if x ∈ xs then Pl.loc else .fro ((env.cells.lookup x).getD 0)) (compEnvC scope cl H.objs.size env) (xs.map (fun x => (x, none)) ++ caps) [(h1.objs.size, [])] a := by
      rintro a ob e (q | ⟨q, _, hq⟩ | q)
      · rw [q] at e
        have := fresh0 H.objs.size (by rw [hC]; exact Nat.le_succ _)
        rw [show (compEnvC scope cl H.objs.size env).locals = H.objs.size from rfl, this] at e; cases e
      · dsimp only at hq; split at hq <;> cases hq
      · simp at q; rw [q, fresh0 _ (Nat.le_refl _)] at e; cases e
    exact {
      ex := x1.trans (Ext.grow x1.ch up2)
      fn := k1
      ns := ⟨_, hns⟩
      vars := fun q hq => by
        rcases List.mem_append.mp hq with hq | hq
        · obtain ⟨x, hx, rfl⟩ := List.mem_map.mp hq
          refine ⟨beq_eq_false_iff_ne.mpr (k5 x hx).2, ?_⟩
          rw [if_pos hx]
          exact ⟨tg x hx, _, hns, fun p e => by cases e⟩
        · have hn : q.1 ∉ xs := fun z => by
            have := (List.nodup_append.mp k6).2.2 _ z _ (List.mem_map_of_mem hq)
            exact this rfl
          refine ⟨beq_eq_false_iff_ne.mpr (k7 q.1 (List.mem_map_of_mem hq)).2, ?_⟩
          rw [if_neg hn]
          obtain ⟨a, v, p, ha, hk, hcell, hp, dv⟩ := capAt q hq
          have hfree := (k7 q.1 (List.mem_map_of_mem hq)).1.1
          have hl : cl.lookup q.1 = some a := by rw [hcl.2 (q.1, .free) (PySem.mem_of_lookup hfree) rfl]; exact ha
          rw [ha]
          refine ⟨?_, hl, ?_, v, p, hcell.keeps fun b ob e => up2 b ob (up1 b ob e), hp, Den.up x1.cc _ dv⟩
          · rw [kindC, hfree, hk, hsc, k2]; rfl
          · obtain ⟨ob, hob, _⟩ := hcell; exact noOwn hob
      kn := by
        have : (xs.map (fun x => ((x, none) : Str × Option PV)) ++ caps).map (·.1) = xs ++ caps.map (·.1) := by simp [List.map_append, List.map_map, Function.comp_def]
        rw [this]; exact k6
      rl := fun q hq => by
        rw [List.mem_singleton.mp hq]
        exact ⟨[], lD, by simp [DenL]⟩
      n1 := fun q _ a e => by split at e <;> cases e
      n2 := fun q _ r _ a e => by split at e <;> cases e
      n3 := fun z => hCD (List.mem_singleton.mp z).symm
      n4 := by simp
      nc := fun a z => by
        rcases z with z | ⟨q, _, hq⟩ | z
        · rw [z]; exact freshc _ (by show _ ≤ H.objs.size; rw [hC]; exact Nat.le_succ _)
        · dsimp only at hq; split at hq <;> cases hq
        · rw [List.mem_singleton.mp z]; exact freshc _ (Nat.le_refl _)
      xo := fun a z => by
        right
        rcases z with z | ⟨q, _, hq⟩ | z
        · rw [z]; exact fresh0 _ (by show _ ≤ H.objs.size; rw [hC]; exact Nat.le_succ _)
        · dsimp only at hq; split at hq <;> cases hq
        · rw [List.mem_singleton.mp z]; exact fresh0 _ (Nat.le_refl _)
      nf := fun z => by cases z
      cv := fun z a e => by
        obtain ⟨e1, _⟩ := hcl.1 z a e
        obtain ⟨ob, e2⟩ := FP.cv z a e1
        exact ⟨ob, up2 _ _ (up1 _ _ e2)⟩ }
  · intro b hb
    obtain ⟨ob, hob⟩ := hlv b hb
    have lt := Heap.lt_size hob
    refine ⟨(hw b hb).2, (hw b hb).1, ?_, ?_, fun x z => ?_⟩
    · show b ≠ H.objs.size
      rw [hC]; exact Nat.ne_of_lt (Nat.lt_succ_of_lt lt)
    · intro z; exact Nat.ne_of_lt lt (List.mem_singleton.mp z)
    · obtain ⟨z1, z2⟩ := hcl.1 x b z
      have hx := k8 _ z2
      have : x ∈ caps.map (·.1) := by rcases hx with hx | hx; exact absurd rfl hx; exact hx
      obtain ⟨q, hq, rfl⟩ := List.mem_map.mp this
      obtain ⟨a, v, p, ha, _, ⟨ob2, hob2, _⟩, _, _⟩ := capAt q hq
      rw [z1] at ha; cases ha
      rw [(hw b hb).1] at hob2; cases hob2
end
end Mine
namespace Mine
open PySem PySem.W PyProof.Rows
section
variable {prog : Program} {w : World} {A : Around} {K c c' h h' : Heap} {G : Org} {env cenv : Env} {ρ ρ' caps : Vars} {R R' : Led} {g : Array GenState} {d : Drawn} {t : Nat} {o : OsState}

/-- an expression to be run over: its items, given out to the names xs -/
noncomputable def SrcE (prog : Program) (w : World) (A : Around) (K : Heap) (env : Env) (ρ : Vars) (R : Led) (iter target : Expr) (xs : List Str) (items : List (List PV)) : Prop :=
  ∀ (G : Org) (c h : Heap), Up K c → Fr G c env ρ R h → ∀ (g : Array GenState) (d : Drawn) (t : Nat) (o : OsState) (Q E : Value → Shared → Prop),
    (∀ I fp wr Si c' h' t', Ext [] c h c' h' → Src prog w A c' target xs I fp wr items Si → Si 0 h' → (∀ b ∈ wr, h.get? b = none ∧ c'.get? b = none) → Q (.ref I) ⟨h', g, d, t', o⟩) →
    wpAny (model prog w) A (eval iter env) (fun x s₁ => wpAny (model prog w) A (pyIter x) Q E s₁) E ⟨h, g, d, t, o⟩
theorem code_compStart {R : Result → Shared → Prop} {elt target iter : Expr} {ifs : List Expr} {gens : List Comprehension} {scope : Scope} {pos : Pos} {depth : Nat} {it acc : Value} {env : Env} {s : Shared} (hg : gens[depth]? = some ⟨target, iter, ifs, 0⟩)
    (h0 : codeAny (model prog w) A (.compLoop (.ListComp elt gens scope pos) depth it acc env) R s)
    (h : ∀ E, wpAny (model prog w) A (pyIter it) (fun it' s' => codeAny (model prog w) A (.compLoop (.ListComp elt gens scope pos) depth it' acc env) R s') E s) :
    codeAny (model prog w) A (.compStart (.ListComp elt gens scope pos) depth it acc env) R s := by
  refine codeAny_of_tree ?_
  show wpAny _ _ ((compStart (.ListComp elt gens scope pos) depth it acc env).onRaise (fun x => do noteFrame x env; standAt theWindowsPlace)) _ _ s
  refine wpAny_notedAt ?_
  unfold compStart
  have hc : (clausesOf (.ListComp elt gens scope pos))[depth]? = some ⟨target, iter, ifs, 0⟩ := hg
  rw [hc]
  show wpAny _ _ (ask >>= _) _ _ s
  refine wpAny_bind (wpAny_askSetting (wpAny_ite ?_))
  split
  · first
      | exact wpAny_bind (wpAny_pure (wpAny_pure (And.intro rfl h0)))
      | exact wpAny_pure (And.intro rfl h0)
  · refine wpAny_bind (wpAny_rule ?_)
    show wpAny _ _ (standAt iter.pos >>= _) _ _ s
    exact wpAny_bind (wpAny_standAt (wpAny_bind (wpAny_mono (h _) (fun it' s' h' => wpAny_pure (And.intro rfl h')) fun _ _ q => q)))

/-- the run of a comprehension: loop is the run of its first loop; what is run over may come at a later state -/
theorem comp_coreX {sc scope : Scope} {xs xs0 gs : List Str} {elt iter target : Expr} {ifs : List Expr} {gens : List Comprehension} {pos pos' : Pos} {items : List (List PV)} {Q E : Value → Shared → Prop} {use : Option (Value → Sem Unit)}
    (P : Heap → List PV → Prop) (Pup : ∀ c c' ys, Up c c' → P c ys → P c' ys) (T : Heap → Heap → Prop)
    (F : Fr G c env ρ R h) (hsc : env.scope = sc) (ok : compOk sc scope xs (caps.map (·.1)) gs = true) (hcap : ∀ q ∈ caps, q ∈ ρ ∧ q.2.isSome = true) (hgen : gens[0]? = some ⟨target, iter, ifs, 0⟩)
    (src : ∀ Q' E' : Value → Shared → Prop, (∀ G0 c0 h0 I fp wr Si c1 h1 t1, Fr G0 c0 env ρ R h0 → T c0 h0 → Ext [] c0 h0 c1 h1 → Src prog w A c1 target xs0 I fp wr items Si → Si 0 h1 → (∀ b ∈ wr, h0.get? b = none ∧ c1.get? b = none) → Q' (.ref I) ⟨h1, g, d, t1, o⟩) →
      wpAny (model prog w) A (eval iter env) (fun x s₁ => wpAny (model prog w) A (pyIter x) Q' E' s₁) E' ⟨h, g, d, t, o⟩)
    (loop : ∀ c0 h0, T c0 h0 → ∀ cenv D c1 h2 t2 I fp wr Si (RR : Result → Shared → Prop), CEnv env cenv gs xs → Up c0 c1 → Src prog w A c1 target xs0 I fp wr items Si → Si 0 h2 →
      Fr ⟨c0, h0, [], false⟩ c1 cenv (xs.map (fun x => (x, none)) ++ caps) [(D, [])] h2 → Off ⟨c0, h0, [], false⟩ c1 cenv [(D, [])] wr →
      (∀ c' ρ' ys h' t', Fr ⟨c0, h0, [], false⟩ c' cenv ρ' [(D, ys)] h' → P c' ys → RR (.ok .next) ⟨h', g, d, t', o⟩) →
      codeAny (model prog w) A (.compLoop (.ListComp elt gens scope pos) 0 (.ref I) (.ref D) cenv) RR ⟨h2, g, d, t2, o⟩)
    (fin : ∀ c0 h0, T c0 h0 → ∀ c' D ys C h' t', Ext [] c0 h0 c' h' → h0.get? D = none → Den c' (.ref D) (.list ys) → P c' ys → h0.get? C = none → c'.get? C = none → (∃ m, h'.Ns C m) → compPost (model prog w) A E use Q (.ref D) C (.ok .next) ⟨h', g, d, t', o⟩)
    (hs : ∀ x, foldedSetIterable iter env x = pure x := by intro _; rfl) :
    wpAny (model prog w) A (comprehension (.ListComp elt gens scope pos) scope env pos' (newList []) false (eval iter env) use) Q E ⟨h, g, d, t, o⟩ := by
  have ok' := ok
  simp only [compOk, Bool.and_eq_true, decide_eq_true_eq, beq_iff_eq, List.all_eq_true, Bool.or_eq_true, List.contains_iff_mem, bne_iff_ne, ne_eq, Bool.not_eq_eq_eq_not, Bool.not_true, beq_eq_false_iff_ne] at ok'
  obtain ⟨⟨⟨⟨⟨⟨⟨⟨k1, k2⟩, k3⟩, k4⟩, k5⟩, k6⟩, k7⟩, k8⟩, k9⟩ := ok'
  obtain ⟨cl, hclo, hcl⟩ : ∃ cl, closureFor scope env = pure cl ∧ (∀ x b, cl.lookup x = some b → env.cells.lookup x = some b ∧ (x, NameKind.free) ∈ scope.names) ∧
    ∀ y ∈ scope.names, y.2 = .free → cl.lookup y.1 = env.cells.lookup y.1 := by
    refine closure_for fun y hy hf => ?_
    have : y.1 ∈ caps.map (·.1) := by rcases k8 y hy with z | z; exact absurd hf z; exact z
    obtain ⟨q, hq, e⟩ := List.mem_map.mp this
    obtain ⟨pl, FP⟩ := F
    have k7' := (k7 q.1 (List.mem_map_of_mem hq)).1.2
    have hk : env.kindOf q.1 = some .cell := by unfold Env.kindOf; rw [hsc]; exact k7'
    have := (FP.vars q (hcap q hq).1).2
    rw [← e]
    revert this
    cases pl q.1 with
    | loc => rintro ⟨z, _⟩; rw [hk] at z; cases z
    | own a => rintro ⟨_, l, _⟩; exact ⟨a, l⟩
    | fro a => rintro ⟨_, l, _⟩; exact ⟨a, l⟩
  obtain ⟨gs', hgs'⟩ : ∃ gs', gens = ⟨target, iter, ifs, 0⟩ :: gs' := by
    cases gens with
    | nil => cases hgen
    | cons a r => simp at hgen; subst hgen; exact ⟨r, rfl⟩
  refine wpAny_comprehension_free (g := ⟨target, iter, ifs, 0⟩) (gs := gs') (by rw [← hgs']; rfl) hs hclo k1 (fun x hx hl => by rcases k4 x hx with z | z; exact absurd hl z; exact z) ?_
  refine src _ E fun G0 c0 h0 I fp wr Si c1 h1 t1 F0 T0 x1 S hs1 hw => ?_
  have hlv : ∀ b ∈ wr, ∃ ob, h1.get? b = some ob := fun b hb => S.live _ _ hs1 b (S.sub b hb)
  refine comp_setup (I := I) (RR := fun acc cenv => compPost (model prog w) A E use Q acc cenv.locals) F0 hsc ok hcap hcl x1 hw hlv fun cenv D h2 t2 ce up2 nC ncC nD hDC F2 off2 => ?_
  have hs2 : Si 0 h2 := S.frame _ _ _ hs1 fun b hb ob e => up2 b ob e
  have main := loop c0 h0 T0 cenv D c1 h2 t2 I fp wr Si (compPost (model prog w) A E use Q (.ref D) cenv.locals) ce x1.cc S hs2 F2 off2 ?_
  · exact code_compStart hgen main fun E' => S.self 0 _ _ _ hs2 main
  · intro c' ρ' ys h' t' F' hP
    obtain ⟨pl', FP'⟩ := F'
    obtain ⟨vs, ⟨n, hl⟩, dl⟩ := FP'.rl (D, ys) (.head _)
    obtain ⟨c'', x'', up'', hD'', nn⟩ := FP'.ex.add nD hl
    refine fin c0 h0 T0 c'' D ys cenv.locals h' t' x'' nD ?_ (Pup _ _ _ up'' hP) nC (nn _ (fun z => hDC z.symm) (FP'.nc _ (.inl rfl))) FP'.ns
    simp only [Den]
    exact ⟨D, vs, rfl, ⟨n, hD''⟩, DenL.up up'' _ dl⟩
theorem comp_core {sc scope : Scope} {xs xs0 gs : List Str} {elt iter target : Expr} {ifs : List Expr} {gens : List Comprehension} {pos pos' : Pos} {items : List (List PV)} {Q E : Value → Shared → Prop} {use : Option (Value → Sem Unit)}
    (P : Heap → List PV → Prop) (Pup : ∀ c c' ys, Up c c' → P c ys → P c' ys)
    (u : Up K c) (F : Fr G c env ρ R h) (hsc : env.scope = sc) (ok : compOk sc scope xs (caps.map (·.1)) gs = true) (hcap : ∀ q ∈ caps, q ∈ ρ ∧ q.2.isSome = true) (hgen : gens[0]? = some ⟨target, iter, ifs, 0⟩)
    (src : SrcE prog w A K env ρ R iter target xs0 items)
    (loop : ∀ cenv D c1 h2 t2 I fp wr Si (RR : Result → Shared → Prop), CEnv env cenv gs xs → Up c c1 → Src prog w A c1 target xs0 I fp wr items Si → Si 0 h2 →
      Fr ⟨c, h, [], false⟩ c1 cenv (xs.map (fun x => (x, none)) ++ caps) [(D, [])] h2 → Off ⟨c, h, [], false⟩ c1 cenv [(D, [])] wr →
      (∀ c' ρ' ys h' t', Fr ⟨c, h, [], false⟩ c' cenv ρ' [(D, ys)] h' → P c' ys → RR (.ok .next) ⟨h', g, d, t', o⟩) →
      codeAny (model prog w) A (.compLoop (.ListComp elt gens scope pos) 0 (.ref I) (.ref D) cenv) RR ⟨h2, g, d, t2, o⟩)
    (fin : ∀ c' D ys C h' t', Ext [] c h c' h' → h.get? D = none → Den c' (.ref D) (.list ys) → P c' ys → h.get? C = none → c'.get? C = none → (∃ m, h'.Ns C m) → compPost (model prog w) A E use Q (.ref D) C (.ok .next) ⟨h', g, d, t', o⟩)
    (hs : ∀ x, foldedSetIterable iter env x = pure x := by intro _; rfl) :
    wpAny (model prog w) A (comprehension (.ListComp elt gens scope pos) scope env pos' (newList []) false (eval iter env) use) Q E ⟨h, g, d, t, o⟩ := by
  exact comp_coreX P Pup (fun c0 h0 => c0 = c ∧ h0 = h) F hsc ok hcap hgen (fun Q' E' k => src G c h u F g d t o Q' E' fun I fp wr Si c1 h1 t1 x S hs hw => k G c h I fp wr Si c1 h1 t1 F ⟨rfl, rfl⟩ x S hs hw)
    (fun c0 h0 e => by obtain ⟨rfl, rfl⟩ := e; exact loop) (fun c0 h0 e => by obtain ⟨rfl, rfl⟩ := e; exact fin) hs

theorem ext_same {C : Addr} {h'' : Heap} (x : Ext [] c h c' h') (n : h.get? C = none) (n' : c'.get? C = none) (s : Heap.SameBut C h' h'') : Ext [] c h c' h'' where
  cc := x.cc
  ch := fun b ob e => by rw [s.2 b fun q => by rw [q, n'] at e; cases e]; exact x.ch b ob e
  hh := fun b ob nb e => by rw [s.2 b fun q => by rw [q, n] at e; cases e]; exact x.hh b ob nb e
  lv := fun b ob e => by rw [s.2 b fun q => by rw [q, n] at e; cases e]; exact x.lv b ob e
  nw := x.nw
/-- the value of a comprehension -/
theorem comp_val {sc scope : Scope} {xs xs0 gs : List Str} {elt iter target : Expr} {ifs : List Expr} {gens : List Comprehension} {pos : Pos} {items : List (List PV)} {Q E : Value → Shared → Prop}
    (P : Heap → List PV → Prop) (Pup : ∀ c c' ys, Up c c' → P c ys → P c' ys)
    (u : Up K c) (F : Fr G c env ρ R h) (hsc : env.scope = sc) (ok : compOk sc scope xs (caps.map (·.1)) gs = true) (hcap : ∀ q ∈ caps, q ∈ ρ ∧ q.2.isSome = true) (hgen : ∃ gs', gens = ⟨target, iter, ifs, 0⟩ :: gs')
    (src : SrcE prog w A K env ρ R iter target xs0 items)
    (loop : ∀ cenv D c1 h2 t2 I fp wr Si (RR : Result → Shared → Prop), CEnv env cenv gs xs → Up c c1 → Src prog w A c1 target xs0 I fp wr items Si → Si 0 h2 →
      Fr ⟨c, h, [], false⟩ c1 cenv (xs.map (fun x => (x, none)) ++ caps) [(D, [])] h2 → Off ⟨c, h, [], false⟩ c1 cenv [(D, [])] wr →
      (∀ c' ρ' ys h' t', Fr ⟨c, h, [], false⟩ c' cenv ρ' [(D, ys)] h' → P c' ys → RR (.ok .next) ⟨h', g, d, t', o⟩) →
      codeAny (model prog w) A (.compLoop (.ListComp elt gens scope pos) 0 (.ref I) (.ref D) cenv) RR ⟨h2, g, d, t2, o⟩)
    (k : ∀ c' D ys h' t', Ext [] c h c' h' → h.get? D = none → Den c' (.ref D) (.list ys) → P c' ys → Q (.ref D) ⟨h', g, d, t', o⟩)
    (hs : ∀ x, foldedSetIterable iter env x = pure x := by intro _; rfl) :
    wpAny (model prog w) A (eval (.ListComp elt gens scope pos) env) Q E ⟨h, g, d, t, o⟩ := by
  obtain ⟨gs', rfl⟩ := hgen
  rw [eval_ListComp]
  refine comp_core (use := none) P Pup u F hsc ok hcap rfl src loop (fun c' D ys C h' t' x nD dv hP nC ncC hn => ?_) hs
  obtain ⟨m, hn⟩ := hn
  exact ⟨m, hn, fun h'' sb => k c' _ ys h'' t' (ext_same x nC ncC sb) nD dv hP⟩
/-- the value of a comprehension over what a call gives that writes more -/
theorem comp_valX {sc scope : Scope} {xs xs0 gs : List Str} {elt iter target : Expr} {ifs : List Expr} {gens : List Comprehension} {pos : Pos} {items : List (List PV)} {Q E : Value → Shared → Prop}
    (P : Heap → List PV → Prop) (Pup : ∀ c c' ys, Up c c' → P c ys → P c' ys) (T : Heap → Heap → Prop)
    (F : Fr G c env ρ R h) (hsc : env.scope = sc) (ok : compOk sc scope xs (caps.map (·.1)) gs = true) (hcap : ∀ q ∈ caps, q ∈ ρ ∧ q.2.isSome = true) (hgen : ∃ gs', gens = ⟨target, iter, ifs, 0⟩ :: gs')
    (src : ∀ Q' E' : Value → Shared → Prop, (∀ G0 c0 h0 I fp wr Si c1 h1 t1, Fr G0 c0 env ρ R h0 → T c0 h0 → Ext [] c0 h0 c1 h1 → Src prog w A c1 target xs0 I fp wr items Si → Si 0 h1 → (∀ b ∈ wr, h0.get? b = none ∧ c1.get? b = none) → Q' (.ref I) ⟨h1, g, d, t1, o⟩) →
      wpAny (model prog w) A (eval iter env) (fun x s₁ => wpAny (model prog w) A (pyIter x) Q' E' s₁) E' ⟨h, g, d, t, o⟩)
    (loop : ∀ c0 h0, T c0 h0 → ∀ cenv D c1 h2 t2 I fp wr Si (RR : Result → Shared → Prop), CEnv env cenv gs xs → Up c0 c1 → Src prog w A c1 target xs0 I fp wr items Si → Si 0 h2 →
      Fr ⟨c0, h0, [], false⟩ c1 cenv (xs.map (fun x => (x, none)) ++ caps) [(D, [])] h2 → Off ⟨c0, h0, [], false⟩ c1 cenv [(D, [])] wr →
      (∀ c' ρ' ys h' t', Fr ⟨c0, h0, [], false⟩ c' cenv ρ' [(D, ys)] h' → P c' ys → RR (.ok .next) ⟨h', g, d, t', o⟩) →
      codeAny (model prog w) A (.compLoop (.ListComp elt gens scope pos) 0 (.ref I) (.ref D) cenv) RR ⟨h2, g, d, t2, o⟩)
    (k : ∀ c0 h0, T c0 h0 → ∀ c' D ys h' t', Ext [] c0 h0 c' h' → h0.get? D = none → Den c' (.ref D) (.list ys) → P c' ys → Q (.ref D) ⟨h', g, d, t', o⟩)
    (hs : ∀ x, foldedSetIterable iter env x = pure x := by intro _; rfl) :
    wpAny (model prog w) A (eval (.ListComp elt gens scope pos) env) Q E ⟨h, g, d, t, o⟩ := by
  obtain ⟨gs', rfl⟩ := hgen
  rw [eval_ListComp]
  refine comp_coreX (use := none) P Pup T F hsc ok hcap rfl src loop (fun c0 h0 hT c' D ys C h' t' x nD dv hP nC ncC hn => ?_) hs
  obtain ⟨m, hn⟩ := hn
  exact ⟨m, hn, fun h'' sb => k c0 h0 hT c' _ ys h'' t' (ext_same x nC ncC sb) nD dv hP⟩
/-- a name given a comprehension, by the exchange -/
theorem comp_asg {sc scope : Scope} {xs xs0 gs : List Str} {elt iter target : Expr} {ifs : List Expr} {gens : List Comprehension} {pos py spos : Pos} {y : Str} {items : List (List PV)} {Q : Flow → Shared → Prop} {E : Value → Shared → Prop}
    (P : Heap → List PV → Prop) (Pup : ∀ c c' ys, Up c c' → P c ys → P c' ys)
    (u : Up K c) (F : Fr G c env ρ R h) (hsc : env.scope = sc) (ok : compOk sc scope xs (caps.map (·.1)) gs = true) (hcap : ∀ q ∈ caps, q ∈ ρ ∧ q.2.isSome = true) (hgen : ∃ gs', gens = ⟨target, iter, ifs, 0⟩ :: gs')
    (src : SrcE prog w A K env ρ R iter target xs0 items)
    (loop : ∀ cenv D c1 h2 t2 I fp wr Si (RR : Result → Shared → Prop), CEnv env cenv gs xs → Up c c1 → Src prog w A c1 target xs0 I fp wr items Si → Si 0 h2 →
      Fr ⟨c, h, [], false⟩ c1 cenv (xs.map (fun x => (x, none)) ++ caps) [(D, [])] h2 → Off ⟨c, h, [], false⟩ c1 cenv [(D, [])] wr →
      (∀ c' ρ' ys h' t', Fr ⟨c, h, [], false⟩ c' cenv ρ' [(D, ys)] h' → P c' ys → RR (.ok .next) ⟨h', g, d, t', o⟩) →
      codeAny (model prog w) A (.compLoop (.ListComp elt gens scope pos) 0 (.ref I) (.ref D) cenv) RR ⟨h2, g, d, t2, o⟩)
    (gf : G.fn = true) (hU : ∀ p, ∃ ρ', PutP y p ρ ρ')
    (k : ∀ c' ys ρ' h' t', Up c c' → PutP y (.list ys) ρ ρ' → Fr G c' env ρ' R h' → P c' ys → Q .next ⟨h', g, d, t', o⟩)
    (hsw : swapsWith (.ListComp elt gens scope pos) (some (.Name y py)) spos.line env = pure true)
    (hs : ∀ x, foldedSetIterable iter env x = pure x := by intro _; rfl) :
    wpAny (model prog w) A (exec (.Assign [.Name y py] (.ListComp elt gens scope pos) spos) env) Q E ⟨h, g, d, t, o⟩ := by
  obtain ⟨gs', rfl⟩ := hgen
  rw [exec_Assign_Name_used _ _ _ _ hsw]
  refine wpAny_bind (wpAny_standAt (wpAny_bind ?_))
  show wpAny _ A (do let _ ← comprehension (.ListComp elt (⟨target, iter, ifs, 0⟩ :: gs') scope pos) scope env _ (newList []) false (eval iter env) (some (assign (.Name y py) env))) _ _ _
  refine wpAny_bind (wpAny_mono (comp_core (use := some (assign (.Name y py) env)) (Q := fun _ s' => Q .next s') (E := E) P Pup u F hsc ok hcap rfl src loop (fun c' D ys C h' t' x nD dv hP nC ncC hn => ?_) hs)
    (fun _ s' hq => wpAny_pure (wpAny_pure hq)) fun _ _ e => e)
  obtain ⟨m, hn⟩ := hn
  have F' := F.ext x
  have off : Off G c' env R [C] := fun b hb => by
    rw [List.mem_singleton.mp hb]
    obtain ⟨pl, FP⟩ := F
    refine ⟨ncC, ?_, fun e => ?_, fun e => ?_, fun z e => ?_⟩
    · cases e : G.h.get? C with
      | none => rfl
      | some ob => obtain ⟨o', e'⟩ := FP.ex.lv _ _ e; rw [nC] at e'; cases e'
    · obtain ⟨ob, e'⟩ := FP.live (.inl rfl); rw [← e, nC] at e'; cases e'
    · obtain ⟨ob, e'⟩ := FP.live (a := C) (.inr (.inr e)); rw [nC] at e'; cases e'
    · obtain ⟨ob, e'⟩ := FP.cv z _ e; rw [nC] at e'; cases e'
  obtain ⟨G', gf', F3, back, kp⟩ := F'.rebase off fun b hb => by
    rw [List.mem_singleton.mp hb]; obtain ⟨ob, _, _, ho, _⟩ := hn; exact ⟨ob, ho⟩
  obtain ⟨ρ', U⟩ := hU (.list ys)
  show wpAny _ A (assign (.Name y py) env (.ref D)) _ _ _
  refine wpAny_assign_Name (F3.stn U dv (.inl (gf'.trans gf)) fun h2 t2 F4 => ?_)
  obtain ⟨o1, o2⟩ := kp _ _ _ _ F4
  refine ⟨m, hn.at' fun ob e => o2 C (by simp) ob e, fun h3 sb => ?_⟩
  exact k c' ys ρ' h3 t2 x.cc U ((back _ _ _ _ F4).1.away o1 fun b ob n e => by rw [sb.2 b (by simpa using n)]; exact e) hP
end
end Mine
namespace Mine
open PySem PySem.W PyProof.Rows
section
variable {prog : Program} {w : World} {A : Around} {K c c' h h' : Heap} {G : Org} {env cenv : Env} {ρ ρ' caps : Vars} {R R' : Led} {g : Array GenState} {d : Drawn} {t : Nat} {o : OsState}

theorem Off.fresh {wr : List Addr} (F : Fr G c env ρ R h) (hw : ∀ b ∈ wr, h.get? b = none ∧ c'.get? b = none) : Off G c' env R wr := fun b hb => by
  obtain ⟨pl, FP⟩ := F
  obtain ⟨n, n'⟩ := hw b hb
  refine ⟨n', ?_, fun e => ?_, fun e => ?_, fun z e => ?_⟩
  · cases e : G.h.get? b with
    | none => rfl
    | some ob => obtain ⟨o', e'⟩ := FP.ex.lv _ _ e; rw [n] at e'; cases e'
  · obtain ⟨ob, e'⟩ := FP.live (.inl rfl); rw [← e, n] at e'; cases e'
  · obtain ⟨ob, e'⟩ := FP.live (a := b) (.inr (.inr e)); rw [n] at e'; cases e'
  · obtain ⟨ob, e'⟩ := FP.cv z _ e; rw [n] at e'; cases e'
theorem PutP.any {y : Str} {p0 : PV} {u u' : Vars} (U : PutP y p0 u u') (p : PV) : ∃ u'', PutP y p u u'' := by
  induction U with
  | head => exact ⟨_, .head⟩
  | tail _ ih => obtain ⟨r, e⟩ := ih; exact ⟨_, .tail e⟩
theorem PutP.uniq {y : Str} {p : PV} {u a b : Vars} (U : PutP y p u a) (nd : (u.map (·.1)).Nodup) (W : PutP y p u b) : a = b := by
  induction U generalizing b with
  | head =>
    cases W with
    | head => rfl
    | tail W => obtain ⟨u, hu⟩ := W.old; rw [List.map_cons, List.nodup_cons] at nd; exact absurd (List.mem_map_of_mem (f := (·.1)) hu) nd.1
  | tail U ih =>
    rw [List.map_cons, List.nodup_cons] at nd
    cases W with
    | head => obtain ⟨u, hu⟩ := U.old; exact absurd (List.mem_map_of_mem (f := (·.1)) hu) nd.1
    | tail W => rw [ih nd.2 W]
theorem PutsP.tail {xs : List Str} {ps : List PV} {u u' : Vars} (q : Str × Option PV) (U : PutsP xs ps u u') : PutsP xs ps (q :: u) (q :: u') := by
  induction U with
  | nil => exact .nil
  | cons a _ ih => exact .cons (.tail a) ih
theorem PutsP.pre {xs : List Str} {ps : List PV} {u u' : Vars} : ∀ (l : Vars), PutsP xs ps u u' → PutsP xs ps (l ++ u) (l ++ u')
  | [], U => U
  | q :: l, U => .tail q (.pre l U)
theorem PutsP.zip {caps : Vars} : ∀ {xs : List Str} {ops : List (Option PV)} {ps : List PV}, ops.length = xs.length → ps.length = xs.length → PutsP xs ps (xs.zip ops ++ caps) (xs.zip (ps.map some) ++ caps)
  | [], [], [], _, _ => .nil
  | x :: xs, op :: ops, p :: ps, h, h' => .cons .head (.tail _ (.zip (by simpa using h) (by simpa using h')))
theorem zip_none (xs : List Str) : xs.map (fun x => ((x, none) : Str × Option PV)) = xs.zip (xs.map fun _ => none) := by
  induction xs with
  | nil => rfl
  | cons x xs ih => simp [ih]

/-- the one loop of a comprehension whose parts are told -/
theorem loop1 {α : Type} {xs : List Str} {elt iter target : Expr} {ifs : List Expr} {scope : Scope} {pos : Pos} {items : List α} (enc : α → List PV) {G' : Org} {D I : Addr} {fp wr : List Addr} {Si : Nat → Heap → Prop} {RR : Result → Shared → Prop} {P : Heap → List PV → Prop}
    (keep : α → Bool) (f : α → PV) (hz : items.length < 1000000) (hlen : ∀ a ∈ items, (enc a).length = xs.length)
    (tests : ∀ a ∈ items, ∀ R, EvI prog w A K cenv (xs.zip ((enc a).map some) ++ caps) R ifs (keep a))
    (el : ∀ a ∈ items, keep a = true → ∀ R, Ev prog w A K cenv (xs.zip ((enc a).map some) ++ caps) R elt (f a))
    (lk : ∀ x ∈ xs, cenv.kindOf x = some .local) (u : Up K c)
    (S : Src prog w A c target xs I fp wr (items.map enc) Si) (hs : Si 0 h) (F : Fr G' c cenv (xs.map (fun x => (x, none)) ++ caps) [(D, [])] h) (off : Off G' c cenv [(D, [])] wr)
    (hP : ∀ c, P c ((items.filter keep).map f))
    (k : ∀ c' ρ' ys h' t', Fr G' c' cenv ρ' [(D, ys)] h' → P c' ys → RR (.ok .next) ⟨h', g, d, t', o⟩) :
    codeAny (model prog w) A (.compLoop (.ListComp elt [⟨target, iter, ifs, 0⟩] scope pos) 0 (.ref I) (.ref D) cenv) RR ⟨h, g, d, t, o⟩ := by
  rw [zip_none] at F
  have get : ∀ {i : Nat} {its : List PV}, (items.map enc)[i]? = some its → ∃ a, items[i]? = some a ∧ a ∈ items ∧ its = enc a := fun {i its} e => by
    rw [List.getElem?_map] at e
    cases ha : items[i]? with
    | none => rw [ha] at e; cases e
    | some a => rw [ha] at e; exact ⟨a, rfl, List.mem_of_getElem? ha, by simpa using e.symm⟩
  refine comp_loop (fun it acc => turn1X ..) S (fun ops => xs.zip ops ++ caps) (fun ops its hl hm => ?_) (.inr lk) (fun i => (items[i]?).elim false keep) (fun i ys _ => ys = ((items.take i).filter keep).map f) (fun _ _ _ _ _ e => e) (.refl _) (by simp) F off hs (by simp)
    (fun i its ys hi G c h u' F => ?_) (fun i its ys c hi hk e => ?_) (fun i its ys G c h g d t o Q E hi hk e u' F kk => ?_) (fun i ys _ e => ?_) (fun c' ops ys h' t' _ _ e F' _ => k c' _ ys h' t' F' ?_)
  · obtain ⟨a, ha, rfl⟩ := List.mem_map.mp hm
    exact ⟨.zip hl (hlen a ha), hlen a ha⟩
  · obtain ⟨a, ha, hm, rfl⟩ := get hi
    rw [ha]
    exact tests a hm _ G c h (u.trans u') F
  · obtain ⟨a, ha, hm, rfl⟩ := get hi
    rw [ha] at hk
    have hk : keep a = false := hk
    rw [e, List.take_add_one, ha]; simp [List.filter_append, hk]
  · obtain ⟨a, ha, hm, rfl⟩ := get hi
    rw [ha] at hk
    have hk : keep a = true := hk
    refine el a hm hk _ G c h (u.trans u') F g d t o Q E fun c' v h' t' x dv => kk c' v _ h' t' x dv ?_
    rw [e, List.take_add_one, ha]; simp [List.filter_append, hk]
  · rw [e, List.length_map]
    exact Nat.lt_of_le_of_lt (Nat.le_trans (List.length_filter_le _ _) (by rw [List.length_take]; exact Nat.min_le_right _ _)) hz
  · rw [e, List.length_map, List.take_length]; exact hP _

theorem ev_comp1 {α : Type} {sc scope : Scope} {xs gs : List Str} {elt iter target : Expr} {ifs : List Expr} {pos : Pos} {items : List α} (enc : α → List PV) (keep : α → Bool) (f : α → PV)
    (src : SrcE prog w A K env ρ R iter target xs (items.map enc)) (hsc : env.scope = sc) (ok : compOk sc scope xs (caps.map (·.1)) gs = true) (hcap : ∀ q ∈ caps, q ∈ ρ ∧ q.2.isSome = true)
    (hz : items.length < 1000000) (hlen : ∀ a ∈ items, (enc a).length = xs.length)
    (tests : ∀ cenv, CEnv env cenv gs xs → ∀ a ∈ items, ∀ R, EvI prog w A K cenv (xs.zip ((enc a).map some) ++ caps) R ifs (keep a))
    (el : ∀ cenv, CEnv env cenv gs xs → ∀ a ∈ items, keep a = true → ∀ R, Ev prog w A K cenv (xs.zip ((enc a).map some) ++ caps) R elt (f a))
    (hs : ∀ x, foldedSetIterable iter env x = pure x := by intro _; rfl) :
    Ev prog w A K env ρ R (.ListComp elt [⟨target, iter, ifs, 0⟩] scope pos) (.list ((items.filter keep).map f)) := fun G c h u F g d t o Q E k => by
  refine comp_val (fun _ ys => ys = (items.filter keep).map f) (fun _ _ _ _ e => e) u F hsc ok hcap ⟨[], rfl⟩ src (fun cenv D c1 h2 t2 I fp wr Si RR ce uc S hs F2 off kk => ?_) (fun c' D ys h' t' x _ dv e => by subst e; exact k c' _ h' t' x dv) hs
  exact loop1 (P := fun _ ys => ys = (items.filter keep).map f) enc keep f hz hlen (tests cenv ce) (el cenv ce) ce.l (u.trans uc) S hs F2 off (fun _ => rfl) kk
/-- two loops, one in the other -/
theorem loop2 {α β : Type} {xs1 xs2 : List Str} {elt iter target iter2 target2 : Expr} {ifs ifs2 : List Expr} {scope : Scope} {pos : Pos} {items : List α} (enc : α → List PV) (enc2 : β → List PV) {G' : Org} {D I : Addr} {fp wr : List Addr} {Si : Nat → Heap → Prop} {RR : Result → Shared → Prop} {P : Heap → List PV → Prop}
    (keep : α → Bool) (items2 : α → List β) (keep2 : α → β → Bool) (f : α → β → PV) (out : List PV) (hout : out = items.flatMap fun a => if keep a then ((items2 a).filter (keep2 a)).map (f a) else [])
    (hz : out.length < 500000) (hlen : ∀ a ∈ items, (enc a).length = xs1.length) (hlen2 : ∀ a ∈ items, keep a = true → ∀ b ∈ items2 a, (enc2 b).length = xs2.length)
    (tests : ∀ a ∈ items, ∀ ops : List (Option PV), ops.length = xs2.length → ∀ R, EvI prog w A K cenv (xs1.zip ((enc a).map some) ++ (xs2.zip ops ++ caps)) R ifs (keep a))
    (src2 : ∀ a ∈ items, keep a = true → ∀ ops : List (Option PV), ops.length = xs2.length → ∀ R, SrcE prog w A K cenv (xs1.zip ((enc a).map some) ++ (xs2.zip ops ++ caps)) R iter2 target2 xs2 ((items2 a).map enc2))
    (tests2 : ∀ a ∈ items, keep a = true → ∀ b ∈ items2 a, ∀ R, EvI prog w A K cenv (xs1.zip ((enc a).map some) ++ (xs2.zip ((enc2 b).map some) ++ caps)) R ifs2 (keep2 a b))
    (el : ∀ a ∈ items, keep a = true → ∀ b ∈ items2 a, keep2 a b = true → ∀ R, Ev prog w A K cenv (xs1.zip ((enc a).map some) ++ (xs2.zip ((enc2 b).map some) ++ caps)) R elt (f a b))
    (lk : ∀ x ∈ xs1 ++ xs2, cenv.kindOf x = some .local) (u : Up K c)
    (S : Src prog w A c target xs1 I fp wr (items.map enc) Si) (hs : Si 0 h) (F : Fr G' c cenv ((xs1 ++ xs2).map (fun x => (x, none)) ++ caps) [(D, [])] h) (off : Off G' c cenv [(D, [])] wr)
    (hP : ∀ c, P c out)
    (k : ∀ c' ρ' ys h' t', Fr G' c' cenv ρ' [(D, ys)] h' → P c' ys → RR (.ok .next) ⟨h', g, d, t', o⟩)
    (hs2 : ∀ x, foldedSetIterable iter2 cenv x = pure x := by intro _; rfl) :
    codeAny (model prog w) A (.compLoop (.ListComp elt [⟨target, iter, ifs, 0⟩, ⟨target2, iter2, ifs2, 0⟩] scope pos) 0 (.ref I) (.ref D) cenv) RR ⟨h, g, d, t, o⟩ := by
  rw [List.map_append, zip_none, zip_none, List.append_assoc] at F
  have offR : ∀ {c : Heap} {ys zs : List PV} {w' : List Addr}, Off G' c cenv [(D, ys)] w' → Off G' c cenv [(D, zs)] w' := fun x b hb => x b hb
  have hle : ∀ i, ((items.take i).flatMap fun a => if keep a then ((items2 a).filter (keep2 a)).map (f a) else []).length ≤ out.length := fun i => by
    rw [hout]
    conv => rhs; rw [← List.take_append_drop i items, List.flatMap_append, List.length_append]
    exact Nat.le_add_right _ _
  have hml : (items.map enc).length = items.length := List.length_map _
  refine codeAny_loop rfl (fun k s => ∃ i c' ops1 ops2 ys h t, k = items.length - i ∧ i ≤ items.length ∧ ops1.length = xs1.length ∧ ops2.length = xs2.length ∧ Up c c' ∧ ys = ((items.take i).flatMap fun a => if keep a then ((items2 a).filter (keep2 a)).map (f a) else []) ∧ Fr G' c' cenv (xs1.zip ops1 ++ (xs2.zip ops2 ++ caps)) [(D, ys)] h ∧ Off G' c' cenv [(D, ys)] wr ∧ Si i h ∧ s = ⟨h, g, d, t, o⟩) ?_ items.length ⟨0, c, _, _, [], h, t, rfl, Nat.zero_le _, by simp, by simp, .refl _, by simp, F, off, hs, rfl⟩
  rintro kk s ⟨i, c1, ops1, ops2, ys, h, t, rfl, hin, hl1, hl2, uc, hy, F, off, hs, rfl⟩
  show wpAny _ A ((compTurn (.ListComp elt [⟨target, iter, ifs, 0⟩, ⟨target2, iter2, ifs2, 0⟩] scope pos) 0 (.ref I) (.ref D) cenv).onRaise (fun x => do noteFrame x cenv; theTreesLotGoes x)) _ _ _
  refine wpAny_noted ?_
  rw [turn2aX]
  unfold turnX
  refine wpAny_bind (wpAny_standAt (wpAny_bind ?_))
  have u1 := u.trans uc
  by_cases hlt : i < items.length
  · have hits : items[i]? = some items[i] := List.getElem?_eq_getElem hlt
    have hmem : items[i] ∈ items := List.getElem_mem hlt
    generalize items[i] = a at hits hmem
    have hal := hlen a hmem
    have hits' : (items.map enc)[i]? = some (enc a) := by rw [List.getElem?_map, hits]; rfl
    refine wpAny_mono (S.next i (enc a) G' c1 cenv _ _ _ h g d t o (fun _ s₂ => wpAny (model prog w) A (do
        let ok ← compIfs ifs cenv
        if ok then inX (.ListComp elt [⟨target, iter, ifs, 0⟩, ⟨target2, iter2, ifs2, 0⟩] scope pos) iter2 (.ref I) (.ref D) cenv else again (.compLoop (.ListComp elt [⟨target, iter, ifs, 0⟩, ⟨target2, iter2, ifs2, 0⟩] scope pos) 0 (.ref I) (.ref D) cenv))
      (fun fin s' => match fin with | .done f => RR (.ok f) s' | .again c' => c' = .compLoop (.ListComp elt [⟨target, iter, ifs, 0⟩, ⟨target2, iter2, ifs2, 0⟩] scope pos) 0 (.ref I) (.ref D) cenv ∧ ∃ m, m < items.length - i ∧ ∃ i c' ops1 ops2 ys h t, m = items.length - i ∧ i ≤ items.length ∧ ops1.length = xs1.length ∧ ops2.length = xs2.length ∧ Up c c' ∧ ys = ((items.take i).flatMap fun a => if keep a then ((items2 a).filter (keep2 a)).map (f a) else []) ∧ Fr G' c' cenv (xs1.zip ops1 ++ (xs2.zip ops2 ++ caps)) [(D, ys)] h ∧ Off G' c' cenv [(D, ys)] wr ∧ Si i h ∧ s' = ⟨h, g, d, t, o⟩)
      (notedBy (model prog w) A cenv fun e s' => RR (.error e) s') s₂) (notedBy (model prog w) A cenv fun e s' => RR (.error e) s') hits' hs uc F off (.zip hl1 hal) (.inr fun x hx => lk x (List.mem_append_left _ hx)) ?_) ?_ (fun _ _ q => q)
    · intro h₂ t₂ hs₂ F₂
      obtain ⟨G2, gf, F3, back, kp⟩ := F₂.rebase off fun b hb => S.live _ _ hs₂ b (S.sub b hb)
      have step : ∀ {c' ρ' R' h'}, Fr G2 c' cenv ρ' R' h' → Si (i + 1) h' := fun {c' ρ' R' h'} F' => by
        refine S.frame _ _ _ hs₂ fun b hb ob e => ?_
        rcases S.old b hb with q | ⟨o2, q⟩
        · exact (kp _ _ _ _ F').2 b q ob e
        · have e1 := F₂.up b _ (uc b _ q)
          have e2 := F'.up b _ ((back _ _ _ _ F').2 b _ (uc b _ q))
          rw [e1] at e; cases e; exact e2
      refine wpAny_bind (tests a hmem ops2 hl2 _ G2 c1 h₂ u1 F3 _ _ _ _ _ _ fun c2 h3 t3 x2 => ?_)
      have F4 := F3.ext x2
      cases hk : keep a with
      | false =>
        simp only [Bool.false_eq_true, if_false]
        exact wpAny_pure ⟨rfl, items.length - (i + 1), by lia, i + 1, c2, (enc a).map some, ops2, ys, h3, t3, rfl, hlt, by simpa using hal, hl2, uc.trans x2.cc, by rw [hy, List.take_add_one, hits]; simp [List.flatMap_append, hk], (back _ _ _ _ F4).1, offR (kp _ _ _ _ F4).1, step F4, rfl⟩
      | true =>
        simp only [if_true]
        unfold inX
        have u2 := u1.trans x2.cc
        refine wpAny_bind (wpAny_mono (src2 a hmem hk ops2 hl2 _ G2 c2 h3 u2 F4 g d t3 o (fun it s => wpAny (model prog w) A (runOwn (.compStart (.ListComp elt [⟨target, iter, ifs, 0⟩, ⟨target2, iter2, ifs2, 0⟩] scope pos) 1 it (.ref D) cenv) cenv) (fun _ s' => ∃ c' ops2 ys h t, ops2.length = xs2.length ∧ Up c2 c' ∧ ys = ((items.take (i + 1)).flatMap fun a => if keep a then ((items2 a).filter (keep2 a)).map (f a) else []) ∧ Fr G2 c' cenv (xs1.zip ((enc a).map some) ++ (xs2.zip ops2 ++ caps)) [(D, ys)] h ∧ s' = ⟨h, g, d, t, o⟩) (fun _ _ => False) s) (fun _ _ => False) ?_) (fun x s₁ h₁ => ?_) fun _ _ q => q.elim)
        · intro I2 fp2 wr2 Si2 c3 h4 t4 x3 S2 hs2' hw2
          have F5 := F4.ext x3
          have off2 : Off G2 c3 cenv [(D, ys)] wr2 := Off.fresh F4 hw2
          refine wpAny_runOwn ?_
          have u3 := u2.trans x3.cc
          have get : ∀ {j : Nat} {its : List PV}, ((items2 a).map enc2)[j]? = some its → ∃ b, (items2 a)[j]? = some b ∧ b ∈ items2 a ∧ its = enc2 b := fun {j its} e => by
            rw [List.getElem?_map] at e
            cases ha : (items2 a)[j]? with
            | none => rw [ha] at e; cases e
            | some b => rw [ha] at e; exact ⟨b, rfl, List.mem_of_getElem? ha, by simpa using e.symm⟩
          have main := comp_loop (G := G2) (c := c3) (h := h4) (t := t4) (g := g) (d := d) (o := o) (RR := fun r s' => match r with
              | .ok f' => ∃ c' ops2 ys h t, ops2.length = xs2.length ∧ Up c2 c' ∧ ys = ((items.take (i + 1)).flatMap fun a => if keep a then ((items2 a).filter (keep2 a)).map (f a) else []) ∧ Fr G2 c' cenv (xs1.zip ((enc a).map some) ++ (xs2.zip ops2 ++ caps)) [(D, ys)] h ∧ s' = ⟨h, g, d, t, o⟩
              | .error e => cameBackBy (model prog w) A cenv (fun _ _ => False) e s')
            (fun it acc => turn2bX elt target2 iter2 ifs2 ⟨target, iter, ifs, 0⟩ scope pos it acc cenv) S2 (fun ops => xs1.zip ((enc a).map some) ++ (xs2.zip ops ++ caps)) (fun ops its hl hm => by
                obtain ⟨b, hb, rfl⟩ := List.mem_map.mp hm
                exact ⟨.pre _ (.zip hl (hlen2 a hmem hk b hb)), hlen2 a hmem hk b hb⟩) (.inr fun x hx => lk x (List.mem_append_right _ hx)) (fun j => ((items2 a)[j]?).elim false (keep2 a))
            (fun j zs _ => zs = ys ++ (((items2 a).take j).filter (keep2 a)).map (f a)) (fun _ _ _ _ _ e => e) (.refl _) hl2 F5 off2 hs2' (by simp)
            (fun j its zs hi G c h u' F => by
              obtain ⟨b, hb, hm, rfl⟩ := get hi
              rw [hb]
              exact tests2 a hmem hk b hm _ G c h (u3.trans u') F) (fun j its zs c hi hk2 e => by
                obtain ⟨b, hb, hm, rfl⟩ := get hi
                rw [hb] at hk2
                have hk2 : keep2 a b = false := hk2
                rw [e, List.take_add_one, hb]; simp [List.filter_append, hk2])
            (fun j its zs G c h g d t o Q E hi hk2 e u' F kk => by
              obtain ⟨b, hb, hm, rfl⟩ := get hi
              rw [hb] at hk2
              have hk2 : keep2 a b = true := hk2
              refine el a hmem hk b hm hk2 _ G c h (u3.trans u') F g d t o Q E fun c' v h' t' x dv => kk c' v _ h' t' x dv ?_
              rw [e, List.take_add_one, hb]; simp [List.filter_append, hk2]) (fun j zs _ e => by
                have e1 := hle i
                have e2 := hle (i + 1)
                rw [← hy] at e1
                have e3 : ((items.take (i + 1)).flatMap fun a => if keep a then ((items2 a).filter (keep2 a)).map (f a) else []) = ys ++ ((items2 a).filter (keep2 a)).map (f a) := by
                  rw [hy, List.take_add_one, hits]; simp [List.flatMap_append, hk]
                rw [e3, List.length_append, List.length_map] at e2
                rw [e, List.length_append, List.length_map]
                have e4 : (((items2 a).take j).filter (keep2 a)).length ≤ ((items2 a).filter (keep2 a)).length := by
                  conv => rhs; rw [← List.take_append_drop j (items2 a), List.filter_append, List.length_append]
                  exact Nat.le_add_right _ _
                lia)
            (fun c' ops zs h' t' hl' uc' e F' _ => ⟨c', ops, zs, h', t', hl', x3.cc.trans uc', by rw [e, hy, List.length_map, List.take_length, List.take_add_one, hits]; simp [List.flatMap_append, hk], F', rfl⟩)
          exact code_compStart rfl main fun E' => S2.self 0 _ _ _ hs2' main
        · refine wpAny_bind (wpAny_standAt (wpAny_bind (wpAny_of_eq (hs2 x) (wpAny_bind (wpAny_holding (wpAny_mono h₁ (fun it s₂ h₂ => wpAny_bind (wpAny_mono h₂ (fun _ s₃ h₃ => ?_) fun _ _ q => q.elim)) fun _ _ q => q.elim))))))
          obtain ⟨c', ops2', zs, h', t', hl', uc', e, F', rfl⟩ := h₃
          exact wpAny_pure ⟨rfl, items.length - (i + 1), by lia, i + 1, c', (enc a).map some, ops2', zs, h', t', rfl, hlt, by simpa using hal, hl', (uc.trans x2.cc).trans uc', e, (back _ _ _ _ F').1, offR (kp _ _ _ _ F').1, step F', rfl⟩
    · rintro r s₁ ⟨v, rfl, q⟩; exact wpAny_bind (wpAny_mono q (fun _ _ q => wpAny_bind q) fun _ _ q => q)
  · have : i = items.length := by lia
    subst this
    exact S.done G' c1 cenv _ _ h g d t o _ _ (hml.symm ▸ hs) uc F off fun h₁ t₁ F₁ => wpAny_pure (k c1 _ ys h₁ t₁ F₁ (by rw [hy, List.take_length, ← hout]; exact hP _))

theorem ev_comp2 {α β : Type} {sc scope : Scope} {xs1 xs2 gs : List Str} {elt iter target iter2 target2 : Expr} {ifs ifs2 : List Expr} {pos : Pos} {items : List α} (enc : α → List PV) (enc2 : β → List PV)
    (keep : α → Bool) (items2 : α → List β) (keep2 : α → β → Bool) (f : α → β → PV) (out : List PV) (hout : out = items.flatMap fun a => if keep a then ((items2 a).filter (keep2 a)).map (f a) else [])
    (src : SrcE prog w A K env ρ R iter target xs1 (items.map enc)) (hsc : env.scope = sc) (ok : compOk sc scope (xs1 ++ xs2) (caps.map (·.1)) gs = true) (hcap : ∀ q ∈ caps, q ∈ ρ ∧ q.2.isSome = true)
    (hz : out.length < 500000) (hlen : ∀ a ∈ items, (enc a).length = xs1.length) (hlen2 : ∀ a ∈ items, keep a = true → ∀ b ∈ items2 a, (enc2 b).length = xs2.length)
    (tests : ∀ cenv, CEnv env cenv gs (xs1 ++ xs2) → ∀ a ∈ items, ∀ ops : List (Option PV), ops.length = xs2.length → ∀ R, EvI prog w A K cenv (xs1.zip ((enc a).map some) ++ (xs2.zip ops ++ caps)) R ifs (keep a))
    (src2 : ∀ cenv, CEnv env cenv gs (xs1 ++ xs2) → ∀ a ∈ items, keep a = true → ∀ ops : List (Option PV), ops.length = xs2.length → ∀ R, SrcE prog w A K cenv (xs1.zip ((enc a).map some) ++ (xs2.zip ops ++ caps)) R iter2 target2 xs2 ((items2 a).map enc2))
    (tests2 : ∀ cenv, CEnv env cenv gs (xs1 ++ xs2) → ∀ a ∈ items, keep a = true → ∀ b ∈ items2 a, ∀ R, EvI prog w A K cenv (xs1.zip ((enc a).map some) ++ (xs2.zip ((enc2 b).map some) ++ caps)) R ifs2 (keep2 a b))
    (el : ∀ cenv, CEnv env cenv gs (xs1 ++ xs2) → ∀ a ∈ items, keep a = true → ∀ b ∈ items2 a, keep2 a b = true → ∀ R, Ev prog w A K cenv (xs1.zip ((enc a).map some) ++ (xs2.zip ((enc2 b).map some) ++ caps)) R elt (f a b))
    (hs : ∀ x, foldedSetIterable iter env x = pure x := by intro _; rfl) (hs2 : ∀ cenv x, foldedSetIterable iter2 cenv x = pure x := by intro _ _; rfl) :
    Ev prog w A K env ρ R (.ListComp elt [⟨target, iter, ifs, 0⟩, ⟨target2, iter2, ifs2, 0⟩] scope pos) (.list out) := fun G c h u F g d t o Q E k => by
  refine comp_val (fun _ ys => ys = out) (fun _ _ _ _ e => e) u F hsc ok hcap ⟨_, rfl⟩ src (fun cenv D c1 h2 t2 I fp wr Si RR ce uc S hs F2 off kk => ?_) (fun c' D ys h' t' x _ dv e => by subst e; exact k c' _ h' t' x dv) hs
  exact loop2 (P := fun _ ys => ys = out) enc enc2 keep items2 keep2 f out hout hz hlen hlen2 (tests cenv ce) (src2 cenv ce) (tests2 cenv ce) (el cenv ce) ce.l (u.trans uc) S hs F2 off (fun _ => rfl) kk (hs2 cenv)
theorem asg_comp2 {α β : Type} {sc scope : Scope} {xs1 xs2 gs : List Str} {elt iter target iter2 target2 : Expr} {ifs ifs2 : List Expr} {pos py spos : Pos} {y : Str} {items : List α} (enc : α → List PV) (enc2 : β → List PV) {rest : List Stmt} {Q : Flow → Shared → Prop} {E : Value → Shared → Prop}
    (keep : α → Bool) (items2 : α → List β) (keep2 : α → β → Bool) (f : α → β → PV) (out : List PV) (hout : out = items.flatMap fun a => if keep a then ((items2 a).filter (keep2 a)).map (f a) else [])
    (F : Fr G c env ρ R h) (u : Up K c) (U : PutP y (.list out) ρ ρ')
    (k : ∀ c' h' t', Up c c' → Fr G c' env ρ' R h' → wpAny (model prog w) A (execs rest env) Q E ⟨h', g, d, t', o⟩)
    (src : SrcE prog w A K env ρ R iter target xs1 (items.map enc)) (hsc : env.scope = sc) (ok : compOk sc scope (xs1 ++ xs2) (caps.map (·.1)) gs = true) (hcap : ∀ q ∈ caps, q ∈ ρ ∧ q.2.isSome = true)
    (hz : out.length < 500000) (hlen : ∀ a ∈ items, (enc a).length = xs1.length) (hlen2 : ∀ a ∈ items, keep a = true → ∀ b ∈ items2 a, (enc2 b).length = xs2.length)
    (tests : ∀ cenv, CEnv env cenv gs (xs1 ++ xs2) → ∀ a ∈ items, ∀ ops : List (Option PV), ops.length = xs2.length → ∀ R, EvI prog w A K cenv (xs1.zip ((enc a).map some) ++ (xs2.zip ops ++ caps)) R ifs (keep a))
    (src2 : ∀ cenv, CEnv env cenv gs (xs1 ++ xs2) → ∀ a ∈ items, keep a = true → ∀ ops : List (Option PV), ops.length = xs2.length → ∀ R, SrcE prog w A K cenv (xs1.zip ((enc a).map some) ++ (xs2.zip ops ++ caps)) R iter2 target2 xs2 ((items2 a).map enc2))
    (tests2 : ∀ cenv, CEnv env cenv gs (xs1 ++ xs2) → ∀ a ∈ items, keep a = true → ∀ b ∈ items2 a, ∀ R, EvI prog w A K cenv (xs1.zip ((enc a).map some) ++ (xs2.zip ((enc2 b).map some) ++ caps)) R ifs2 (keep2 a b))
    (el : ∀ cenv, CEnv env cenv gs (xs1 ++ xs2) → ∀ a ∈ items, keep a = true → ∀ b ∈ items2 a, keep2 a b = true → ∀ R, Ev prog w A K cenv (xs1.zip ((enc a).map some) ++ (xs2.zip ((enc2 b).map some) ++ caps)) R elt (f a b))
    (hsw : swapsWith (.ListComp elt [⟨target, iter, ifs, 0⟩, ⟨target2, iter2, ifs2, 0⟩] scope pos) (some (.Name y py)) spos.line env = pure true)
    (gf : G.fn = true := by first | rfl | assumption) (hs : ∀ x, foldedSetIterable iter env x = pure x := by intro _; rfl) (hs2 : ∀ cenv x, foldedSetIterable iter2 cenv x = pure x := by intro _ _; rfl) :
    wpAny (model prog w) A (execs (.Assign [.Name y py] (.ListComp elt [⟨target, iter, ifs, 0⟩, ⟨target2, iter2, ifs2, 0⟩] scope pos) spos :: rest) env) Q E ⟨h, g, d, t, o⟩ := by
  have kn : (ρ.map (·.1)).Nodup := let ⟨_, FP⟩ := F; FP.kn
  refine wpAny_execs_cons (comp_asg (fun _ ys => ys = out) (fun _ _ _ _ e => e) u F hsc ok hcap ⟨_, rfl⟩ src (fun cenv D c1 h2 t2 I fp wr Si RR ce uc S hs F2 off kk => ?_) gf U.any (fun c' ys ρ'' h' t' uc W F' e => by subst e; cases U.uniq kn W; exact k c' h' t' uc F') hsw hs)
  exact loop2 (P := fun _ ys => ys = out) enc enc2 keep items2 keep2 f out hout hz hlen hlen2 (tests cenv ce) (src2 cenv ce) (tests2 cenv ce) (el cenv ce) ce.l (u.trans uc) S hs F2 off (fun _ => rfl) kk (hs2 cenv)
end
end Mine
namespace Mine
open PySem PySem.W PyProof.Rows
section
variable {prog : Program} {w : World} {A : Around} {K c c' h h' : Heap} {G : Org} {env cenv : Env} {ρ ρ' caps : Vars} {R R' : Led} {g : Array GenState} {d : Drawn} {t : Nat} {o : OsState} {e e1 e2 : Expr} {ps qs : List PV} {x y : Str} {px py pos : Pos}

theorem den_list_iter {a : Addr} {vs : List Value} (hp : c.PlainList a vs.toArray) (k : Up c h) : h.IsList a vs.toArray := (hp.at fun o => k a o).isList
/-- over a list -/
theorem list_go {v : Value} {Q E : Value → Shared → Prop} {c1 h1 : Heap} (hh : A.handled = none) (u1 : Up c1 h1) (d1 : Den c1 v (.list ps))
    (k : ∀ I fp wr Si c' h' t', Ext [] c1 h1 c' h' → Src prog w A c' (.Name x px) [x] I fp wr (ps.map fun p => [p]) Si → Si 0 h' → (∀ b ∈ wr, h1.get? b = none ∧ c'.get? b = none) → Q (.ref I) ⟨h', g, d, t', o⟩) :
    wpAny (model prog w) A (pyIter v) Q E ⟨h1, g, d, t, o⟩ := by
  simp only [Den] at d1
  obtain ⟨a, vs, rfl, hp, dl⟩ := d1
  have hl := den_list_iter hp u1
  have hlt : a ≠ h1.objs.size := by obtain ⟨ob, ho, _⟩ := hl; exact Nat.ne_of_lt (Heap.lt_size ho)
  refine wpAny_pyIter_list hl ?_
  have up1 : Up h1 (h1.push { cls := .type "list_iterator", data := .fields #[.ref a, .int 0 0] }) := up_push _
  have nI : h1.get? h1.objs.size = none := fresh_none
  refine k h1.objs.size [h1.objs.size, a] [h1.objs.size] _ c1 _ _ (Ext.grow u1 up1) (.ofWalks (Walks.list hh h1.objs.size a hlt vs.toArray) ?_ ?_ ?_ ?_) ⟨⟨_, Heap.get?_push_size _ rfl, rfl, rfl⟩, hl.push _⟩ ?_
  · have := dl.length; simp [this]
  · intro i v hv
    have hi : i < vs.length := by have := (Array.getElem?_eq_some_iff.mp hv).1; simpa using this
    have hi2 : i < ps.length := by rw [← dl.length]; exact hi
    obtain ⟨v', hv', dv⟩ := dl.get (List.getElem?_eq_getElem hi2)
    refine ⟨ps[i], List.getElem?_eq_getElem hi2, ?_⟩
    have : vs[i]? = some v := by simpa using hv
    rw [hv'] at this; cases this; exact dv
  · intro b hb
    rcases List.mem_cons.mp hb with rfl | hb
    · exact .inl (by simp)
    · rw [List.mem_singleton.mp hb]; obtain ⟨n, e⟩ := hp; exact .inr ⟨_, e⟩
  · rintro i h ⟨⟨ob, ho, _⟩, ⟨ob', ho', _⟩⟩ b hb
    rcases List.mem_cons.mp hb with rfl | hb
    · exact ⟨ob, ho⟩
    · rw [List.mem_singleton.mp hb]; exact ⟨ob', ho'⟩
  · intro b hb
    rw [List.mem_singleton.mp hb]
    refine ⟨nI, ?_⟩
    cases e : c1.get? h1.objs.size with
    | none => rfl
    | some ob => have := u1 _ _ e; rw [nI] at this; cases this
theorem srcE_list (hh : A.handled = none) (x1 : Ev prog w A K env ρ R e (.list ps)) : SrcE prog w A K env ρ R e (.Name x px) [x] (ps.map fun p => [p]) := fun G c h u F g d t o Q E k => by
  refine x1.use u F fun c1 v h1 t1 y1 F1 d1 => list_go hh F1.up d1 fun I fp wr Si c' h' t' x2 S hs hw => k I fp wr Si c' h' t' (y1.trans x2) S hs fun b hb => ⟨?_, (hw b hb).2⟩
  cases e : h.get? b with
  | none => rfl
  | some ob => have := y1.up _ _ e; rw [(hw b hb).1] at this; cases this

/-- a range's ints -/
noncomputable def rangeL (a k : Int) (n : Nat) : List PV := (List.range n).map fun (i : Nat) => PV.int (a + i * k)
theorem src_range {I : Addr} (hh : A.handled = none) (a k : Int) (n : Nat) : Src prog w A K (.Name x px) [x] I [I] [I] ((rangeL a k n).map fun p => [p]) (fun i h => IsRangeIter h I (a + (i : Nat) * k) ((n : Int) - (i : Nat)) k) := by
  refine .ofWalks (Walks.range hh I a k n).bound (by simp [rangeL]) ?_ ?_ ?_
  · rintro i v ⟨hi, t, rfl⟩
    exact ⟨PV.int (a + i * k), by simp only [rangeL, List.getElem?_map, List.getElem?_range hi, Option.map_some], by simp [Den]⟩
  · intro b hb; exact .inl hb
  · intro i h st b hb; rw [List.mem_singleton.mp hb]; exact ⟨_, st⟩
/-- over a range that was just made -/
theorem range_go {a b st : Int} {n : Nat} {r : Addr} {t1 t2 t3 : Tok} {Q E : Value → Shared → Prop} {c1 h1 : Heap} (hh : A.handled = none) (y1 : Ext [] c h c1 h1) (hr : h1.get? r = some { cls := .type "range", data := .fields #[.int a t1, .int b t2, .int st t3] })
    (hs : Builtin.Range.small a b st = true) (hn : Builtin.Range.rangeSize a b st = n)
    (k : ∀ I fp wr Si c' h' t', Ext [] c h c' h' → Src prog w A c' (.Name x px) [x] I fp wr ((rangeL a st n).map fun p => [p]) Si → Si 0 h' → (∀ b ∈ wr, h.get? b = none ∧ c'.get? b = none) → Q (.ref I) ⟨h', g, d, t', o⟩) :
    wpAny (model prog w) A (pyIter (.ref r)) Q E ⟨h1, g, d, t, o⟩ := by
  have nI : h1.get? h1.objs.size = none := fresh_none
  refine wpAny_pyIter_range hr hs (k h1.objs.size [h1.objs.size] [h1.objs.size] _ c1 _ _ (y1.trans (Ext.grow y1.ch (up_push _))) (src_range hh a st n) ?_ ?_)
  · rw [hn]
    show IsRangeIter _ _ (a + (0 : Nat) * st) ((n : Int) - (0 : Nat)) st
    have e1 : a + ((0 : Nat) : Int) * st = a := by simp
    have e2 : (n : Int) - ((0 : Nat) : Int) = n := by simp
    rw [e1, e2]
    exact Heap.get?_push_size _ rfl
  · intro b hb
    rw [List.mem_singleton.mp hb]
    refine ⟨?_, ?_⟩
    · cases e : h.get? h1.objs.size with
      | none => rfl
      | some ob => have := y1.up _ _ e; rw [nI] at this; cases this
    · cases e : c1.get? h1.objs.size with
      | none => rfl
      | some ob => have := y1.ch _ _ e; rw [nI] at this; cases this
theorem range_small_up {a b : Int} (ha : 0 ≤ a ∧ a < 100000000) (hb : 0 ≤ b ∧ b < 100000000) : Builtin.Range.small a b 1 = true ∧ Builtin.Range.rangeSize a b 1 = (b - a).toNat := by
  have hz : Builtin.Range.rangeSize a b 1 = (b - a).toNat := by
    unfold Builtin.Range.rangeSize
    rw [if_pos (by decide)]
    split <;> lia
  refine ⟨?_, hz⟩
  have fit : ∀ i : Int, -1000000000 ≤ i → i ≤ 1000000000 → Builtin.Range.rangeFitsLong i = true := fun i h1 h2 => by
    simp only [Builtin.Range.rangeFitsLong, Bool.and_eq_true, decide_eq_true_eq]; lia
  unfold Builtin.Range.small
  rw [hz, fit a (by lia) (by lia), fit b (by lia) (by lia), fit 1 (by lia) (by lia), fit ((b - a).toNat) (by lia) (by lia), if_pos (by decide), fit (b + (1 - 1)) (by lia) (by lia)]
  simp
theorem range_small_down {a b : Int} (ha : 0 ≤ a ∧ a < 100000000) (hb : -1 ≤ b ∧ b < 100000000) : Builtin.Range.small a b (-1) = true ∧ Builtin.Range.rangeSize a b (-1) = (a - b).toNat := by
  have hz : Builtin.Range.rangeSize a b (-1) = (a - b).toNat := by
    unfold Builtin.Range.rangeSize
    rw [if_neg (by decide), Int.neg_neg, Int.ediv_one]
    split <;> lia
  refine ⟨?_, hz⟩
  have fit : ∀ i : Int, -1000000000 ≤ i → i ≤ 1000000000 → Builtin.Range.rangeFitsLong i = true := fun i h1 h2 => by
    simp only [Builtin.Range.rangeFitsLong, Bool.and_eq_true, decide_eq_true_eq]; lia
  unfold Builtin.Range.small
  rw [hz, fit a (by lia) (by lia), fit b (by lia) (by lia), fit (-1) (by lia) (by lia), fit ((a - b).toNat) (by lia) (by lia), if_neg (by decide), fit (b + (-1 + 1)) (by lia) (by lia)]
  simp
variable {func : Expr}
theorem srcE_range1 {n : Nat} (hh : A.handled = none) (hz : n < 100000000) (x1 : Ev prog w A K env ρ R func (.val (.type "range"))) (x2 : Ev prog w A K env ρ R e (.int n))
    (he : starEach [e] env = [(false, eval e env)] := by rfl)
    (he' : eval (.Call func [e] [] pos) env = (do callWith pos (← eval func env) [] (backTo pos (starEach [e] env)) (backToKw pos (keywordEach [] env))) := by rfl) :
    SrcE prog w A K env ρ R (.Call func [e] [] pos) (.Name x px) [x] ((rangeL 0 1 n).map fun p => [p]) := fun G c h u F g d t o Q E k => by
  refine Call_ (x1.use u F fun c1 v1 h1 t1 y1 F1 d1 => ?_) he'
  simp only [Den] at d1; subst d1
  refine PyProof.Rows.callWith_type1 (evl_cons x2 evl_nil he G c1 h1 (u.trans y1.cc) F1 _ _ _ _ _ _ fun c2 vs h2 t2 y2 F2 d2 => ?_) he
  obtain ⟨v, rfl, d2⟩ := denL1 d2
  · simp only [DenL, Den] at d2; obtain ⟨⟨tk, rfl⟩, _⟩ := d2
    obtain ⟨s1, s2⟩ := range_small_up (a := 0) (b := n) (by lia) (by lia)
    refine call_range_1 (range_go (g := g) (d := d) (o := o) (c := c) (h := h) (c1 := c2) (n := n) hh ((y1.trans y2).trans (Ext.grow F2.up (up_push _))) (Heap.get?_push_size _ rfl) s1 (by rw [s2]; simp) k)
theorem srcE_range3 {a b : Int} {n : Nat} (hh : A.handled = none) (ha : 0 ≤ a ∧ a < 100000000) (hz : -1 ≤ b ∧ b < 100000000) (hn : n = (a - b).toNat) (x1 : Ev prog w A K env ρ R func (.val (.type "range"))) (x2 : Ev prog w A K env ρ R e (.int a)) (x3 : Ev prog w A K env ρ R e1 (.int b)) (x4 : Ev prog w A K env ρ R e2 (.int (-1)))
    (he : starEach [e, e1, e2] env = (false, eval e env) :: starEach [e1, e2] env := by rfl) (he1 : starEach [e1, e2] env = (false, eval e1 env) :: starEach [e2] env := by rfl) (he2 : starEach [e2] env = [(false, eval e2 env)] := by rfl)
    (he' : eval (.Call func [e, e1, e2] [] pos) env = (do callWith pos (← eval func env) [] (backTo pos (starEach [e, e1, e2] env)) (backToKw pos (keywordEach [] env))) := by rfl) :
    SrcE prog w A K env ρ R (.Call func [e, e1, e2] [] pos) (.Name x px) [x] ((rangeL a (-1) n).map fun p => [p]) := fun G c h u F g d t o Q E k => by
  refine Call_ (x1.use u F fun c1 v1 h1 t1 y1 F1 d1 => ?_) he'
  simp only [Den] at d1; subst d1
  refine PyProof.Rows.callWith_type1 (evl_cons x2 (evl_cons x3 (evl_cons x4 evl_nil he2) he1) he G c1 h1 (u.trans y1.cc) F1 _ _ _ _ _ _ fun c2 vs h2 t2 y2 F2 d2 => ?_) he (by rw [he1, he2]; rfl)
  obtain ⟨v, v', v'', rfl, d2⟩ := denL3 d2
  · simp only [DenL, Den] at d2; obtain ⟨⟨tk, rfl⟩, ⟨tk', rfl⟩, ⟨tk'', rfl⟩, _⟩ := d2
    obtain ⟨s1, s2⟩ := range_small_down (a := a) (b := b) ha hz
    refine call_range_3 (by decide) (range_go (g := g) (d := d) (o := o) (c := c) (h := h) (c1 := c2) (n := n) hh ((y1.trans y2).trans (Ext.grow F2.up (up_push _))) (Heap.get?_push_size _ rfl) s1 (by rw [s2, hn]) k) (.inl (PyProof.noPylong_small (by lia)))

/-- two names given their items, in order -/
theorem stPair {p q : PV} {v1 v2 : Value} {Q : Unit → Shared → Prop} {E : Value → Shared → Prop} (F : Fr G c env ρ R h) (U : PutsP [x, y] [p, q] ρ ρ') (d1 : Den c v1 p) (d2 : Den c v2 q) (lc : G.fn = true ∨ ∀ z ∈ [x, y], env.kindOf z = some .local)
    (kk : ∀ h' t', Fr G c env ρ' R h' → Q () ⟨h', g, d, t', o⟩) :
    wpAny (model prog w) A (assignInOrder ((assignEach [.Name x px, .Name y py] env).map (·.2)) [v1, v2]) Q E ⟨h, g, d, t, o⟩ := by
  have lx : G.fn = true ∨ env.kindOf x = some .local := by rcases lc with z | z; exact .inl z; exact .inr (z x (by simp))
  have ly : G.fn = true ∨ env.kindOf y = some .local := by rcases lc with z | z; exact .inl z; exact .inr (z y (by simp))
  cases U with
  | cons U1 U2 =>
    cases U2 with
    | cons U2 U3 =>
      cases U3
      show wpAny _ _ (do holding [v2] (assign (.Name x px) env v1); holding [] (assign (.Name y py) env v2); pure ()) _ _ _
      refine wpAny_bind (wpAny_holding (wpAny_assign_Name (F.stn U1 d1 lx fun h1 t1 F1 => ?_)))
      refine wpAny_bind (wpAny_holding (wpAny_assign_Name (F1.stn U2 d2 ly fun h2 t2 F2 => wpAny_pure (kk h2 t2 F2))))
/-- pairs that an iterator of the library's gives out, to two names -/
theorem Src.ofWalksT {n : Nat} {I : Addr} {fp wr : List Addr} {P : Nat → Array Value → Prop} {Si : Nat → Heap → Prop} {Mid : Nat → Addr → Heap → Prop} {pos : Pos} {k : Nat} {pqs : List (PV × PV)} (hh : A.handled = none) (W : WalksT prog w A I fp wr n P Si Mid) (hn : pqs.length = n)
    (hP : ∀ i vals, i < n → P i vals → ∃ v1 v2 p q, vals = #[v1, v2] ∧ pqs[i]? = some (p, q) ∧ Den K v1 p ∧ Den K v2 q)
    (old : ∀ b ∈ fp, b ∈ wr ∨ ∃ o, K.get? b = some o) (live : ∀ i h, Si i h → ∀ b ∈ fp, ∃ o, h.get? b = some o) :
    Src prog w A K (.Tuple [.Name x px, .Name y py] k pos) [x, y] I fp wr (pqs.map fun r => [r.1, r.2]) Si where
  sub := W.sub
  old := old
  live := live
  frame := W.frame
  next := fun i its G c env ρ ρ' R h g d t o Q E hi hs u F off U lc kk => by
    have hlt : i < n := by rw [← hn]; have := (List.getElem?_eq_some_iff.mp hi).1; simpa using this
    refine W.item i _ _ _ hlt hs fun T vals h₁ t₁ hv hsz hT hM k1 => ⟨.ref T, rfl, ?_⟩
    obtain ⟨v1, v2, p, q, rfl, hp, dp, dq⟩ := hP i vals hlt hv
    have hits : its = [p, q] := by rw [List.getElem?_map, hp] at hi; simpa using hi.symm
    subst hits
    have F1 : Fr G c env ρ R h₁ := F.away off (fun a o' n e => k1 a o' n e)
    refine W.go _ _ _ i T _ _ _ hM fun h₂ hs₂ k2 => ?_
    have F2 : Fr G c env ρ R h₂ := F1.away off (fun a o' n e => k2 a o' n e)
    have hT2 : h₂.IsTuple T #[v1, v2] := hT.at fun ob e => k2 T ob (W.apart _ _ _ hM) e
    refine wpAny_assign_Tuple hh hT2 rfl rfl fun h₃ e3 => ?_
    have up3 : Up h₂ h₃ := fun b ob e => e3 b ob (Nat.ne_of_lt (Heap.lt_size e)) e
    have F3 : Fr G c env ρ R h₃ := F2.ext (Ext.grow F2.up up3)
    have hs₃ : Si (i + 1) h₃ := W.frame _ _ _ hs₂ fun b _ ob e => up3 b ob e
    obtain ⟨G', gf, F4, back, keep⟩ := F3.rebase off fun b hb => live _ _ hs₃ b (W.sub b hb)
    refine stPair F4 U (Den.up u _ dp) (Den.up u _ dq) (by rw [gf]; exact lc) fun h₄ t₄ F5 => ?_
    refine kk _ _ (W.frame _ _ _ hs₃ fun b hb o' e => ?_) (back _ _ _ _ F5).1
    rcases old b hb with z | ⟨o2, z⟩
    · exact (keep _ _ _ _ F5).2 b z o' e
    · have e1 := F3.up b _ (u b _ z)
      have e2 := F5.up b _ (u b _ z)
      rw [e1] at e; cases e; exact e2
  done := fun G c env ρ R h g d t o Q E hs u F off k => by
    exact W.done _ _ _ (by simpa [hn] using hs) fun h₁ t₁ kk => k _ _ (F.away off fun a o' n e => kk a o' n e)
  self := W.self
theorem srcE_zip {k : Nat} {tp : Pos} (hh : A.handled = none) (hlen : ps.length = qs.length) (x1 : Ev prog w A K env ρ R func (.val (.type "zip"))) (x2 : Ev prog w A K env ρ R e (.list ps)) (x3 : Ev prog w A K env ρ R e1 (.list qs))
    (he : starEach [e, e1] env = (false, eval e env) :: starEach [e1] env := by rfl) (he1 : starEach [e1] env = [(false, eval e1 env)] := by rfl)
    (he' : eval (.Call func [e, e1] [] pos) env = (do callWith pos (← eval func env) [] (backTo pos (starEach [e, e1] env)) (backToKw pos (keywordEach [] env))) := by rfl) :
    SrcE prog w A K env ρ R (.Call func [e, e1] [] pos) (.Tuple [.Name x px, .Name y py] k tp) [x, y] ((ps.zip qs).map fun r => [r.1, r.2]) := fun G c h u F g d t o Q E kk => by
  refine Call_ (x1.use u F fun c1 v1 h1 t1 y1 F1 d1 => ?_) he'
  simp only [Den] at d1; subst d1
  refine PyProof.Rows.callWith_type1 (evl_cons x2 (evl_cons x3 evl_nil he1) he G c1 h1 (u.trans y1.cc) F1 _ _ _ _ _ _ fun c2 vs h2 t2 y2 F2 d2 => ?_) he (by rw [he1]; rfl)
  obtain ⟨v, v', rfl, d2⟩ := denL2 d2
  · simp only [DenL, Den] at d2; obtain ⟨⟨a1, us1, rfl, hp1, dl1⟩, ⟨a2, us2, rfl, hp2, dl2⟩, _⟩ := d2
    have hl1 := den_list_iter hp1 F2.up
    have hl2 := den_list_iter hp2 F2.up
    obtain ⟨ob1, ho1, _⟩ := id hl1
    obtain ⟨ob2, ho2, _⟩ := id hl2
    have la1 : Nat.succ a1 ≤ h2.objs.size := Heap.lt_size ho1
    have la2 : Nat.succ a2 ≤ h2.objs.size := Heap.lt_size ho2
    refine call_zip_2 hl1 hl2 fun h3 hZ hTI hTO hi1 hi2 hz3 up3 => wpAny_pyIter_zip hZ ?_
    have D : ZipApart (h2.objs.size + 4) (h2.objs.size + 2) (h2.objs.size + 3) h2.objs.size (h2.objs.size + 1) a1 a2 := by
      have n : ∀ {a b : Nat}, a < b → a ≠ b := fun e => Nat.ne_of_lt e
      have m : ∀ {a b : Nat}, b < a → a ≠ b := fun e => Nat.ne_of_gt e
      constructor <;> first | exact n (by lia) | exact m (by lia)
    have W := WalksT.zip2 (prog := prog) (w := w) hh _ _ _ _ _ _ _ D us1.toArray us2.toArray
    have none2 : ∀ b, h2.objs.size ≤ b → h2.get? b = none := fun b hb => by
      cases e : h2.get? b with
      | none => rfl
      | some o' => exact absurd (Heap.lt_size e) (Nat.not_lt.mpr hb)
    have y12 := y1.trans y2
    have nh : ∀ b, h2.objs.size ≤ b → h.get? b = none := fun b hb => by
      cases e : h.get? b with
      | none => rfl
      | some ob => have := y12.up _ _ e; rw [none2 b hb] at this; cases this
    obtain ⟨c3, x3, u3, e3, nn3⟩ := (y12.trans (Ext.grow F2.up up3)).add (nh (h2.objs.size + 2) (by lia)) hTI
    refine kk (h2.objs.size + 4) [h2.objs.size + 4, h2.objs.size + 2, h2.objs.size + 3, h2.objs.size, h2.objs.size + 1, a1, a2] [h2.objs.size + 4, h2.objs.size + 3, h2.objs.size, h2.objs.size + 1] _ c3 h3 _ x3 (.ofWalksT hh W ?_ ?_ ?_ ?_) ⟨hZ, hTI, ⟨_, _, hTO⟩, hi1, hi2, hl1.at fun ob => up3 a1 ob, hl2.at fun ob => up3 a2 ob⟩ ?_
    · have := dl1.length; have := dl2.length; simp; lia
    · rintro i vals hi ⟨z1, z2, hz1, hz2, rfl⟩
      have hi1' : i < ps.length := by have := dl1.length; simp at hi; lia
      have hi2' : i < qs.length := by lia
      obtain ⟨v', hv', dv⟩ := dl1.get (List.getElem?_eq_getElem hi1')
      have e1 : us1[i]? = some z1 := by simpa using hz1
      rw [hv'] at e1; cases e1
      obtain ⟨v'', hv'', dv'⟩ := dl2.get (List.getElem?_eq_getElem hi2')
      have e2 : us2[i]? = some z2 := by simpa using hz2
      rw [hv''] at e2; cases e2
      refine ⟨_, _, ps[i], qs[i], rfl, ?_, Den.up u3 _ dv, Den.up u3 _ dv'⟩
      rw [List.getElem?_zip_eq_some]
      exact ⟨List.getElem?_eq_getElem hi1', List.getElem?_eq_getElem hi2'⟩
    · intro b hb
      simp only [List.mem_cons, List.not_mem_nil, or_false] at hb ⊢
      rcases hb with rfl | rfl | rfl | rfl | rfl | rfl | rfl
      · exact .inl (.inl rfl)
      · exact .inr ⟨_, e3⟩
      · exact .inl (.inr (.inl rfl))
      · exact .inl (.inr (.inr (.inl rfl)))
      · exact .inl (.inr (.inr (.inr rfl)))
      · obtain ⟨n, e⟩ := hp1; exact .inr ⟨_, u3 _ _ e⟩
      · obtain ⟨n, e⟩ := hp2; exact .inr ⟨_, u3 _ _ e⟩
    · rintro i h ⟨q1, q2, ⟨_, _, q3⟩, ⟨_, q4, _⟩, ⟨_, q5, _⟩, ⟨_, q6, _⟩, ⟨_, q7, _⟩⟩ b hb
      simp only [List.mem_cons, List.not_mem_nil, or_false] at hb
      rcases hb with rfl | rfl | rfl | rfl | rfl | rfl | rfl
      · exact ⟨_, q1⟩
      · exact ⟨_, q2⟩
      · exact ⟨_, q3⟩
      · exact ⟨_, q4⟩
      · exact ⟨_, q5⟩
      · exact ⟨_, q6⟩
      · exact ⟨_, q7⟩
    · intro b hb
      simp only [List.mem_cons, List.not_mem_nil, or_false] at hb
      have hle : h2.objs.size ≤ b ∧ b ≠ h2.objs.size + 2 := by
        rcases hb with rfl | rfl | rfl | rfl <;> exact ⟨by first | exact Nat.le_refl _ | exact Nat.le_add_right _ _, by first | exact Nat.ne_of_gt (by lia) | exact Nat.ne_of_lt (by lia)⟩
      refine ⟨nh b hle.1, nn3 b hle.2 ?_⟩
      cases e : c2.get? b with
      | none => rfl
      | some ob => have := F2.up _ _ e; rw [none2 b hle.1] at this; cases this

theorem SrcE.cast {iter target : Expr} {xs : List Str} {i1 i2 : List (List PV)} (e : i1 = i2) (s : SrcE prog w A K env ρ R iter target xs i1) : SrcE prog w A K env ρ R iter target xs i2 := e ▸ s
theorem srcE_listT {α : Type} {l : List α} (enc : α → PV) (hh : A.handled = none) (x1 : Ev prog w A K env ρ R e (.list (l.map enc))) : SrcE prog w A K env ρ R e (.Name x px) [x] (l.map fun a => [enc a]) :=
  (srcE_list hh x1).cast (by rw [List.map_map]; rfl)
theorem rangeL_up (a n : Nat) : (rangeL a 1 n).map (fun p => [p]) = (List.range n).map fun i => [PV.int ((a + i : Nat) : Int)] := by
  unfold rangeL; rw [List.map_map]; apply List.map_congr_left; intro i _; simp
theorem srcE_rng1 {n : Nat} (hh : A.handled = none) (hz : n < 100000000) (x1 : Ev prog w A K env ρ R func (.val (.type "range"))) (x2 : Ev prog w A K env ρ R e (.int n))
    (he : starEach [e] env = [(false, eval e env)] := by rfl)
    (he' : eval (.Call func [e] [] pos) env = (do callWith pos (← eval func env) [] (backTo pos (starEach [e] env)) (backToKw pos (keywordEach [] env))) := by rfl) :
    SrcE prog w A K env ρ R (.Call func [e] [] pos) (.Name x px) [x] ((List.range n).map fun i => [PV.int (i : Nat)]) := (srcE_range1 hh hz x1 x2 he he').cast (by have := rangeL_up 0 n; simpa using this)
theorem rangeL_dn (a n : Nat) (hn : n ≤ a + 1) : (rangeL a (-1) n).map (fun p => [p]) = (List.range n).map fun i => [PV.int ((a - i : Nat) : Int)] := by
  unfold rangeL; rw [List.map_map]; apply List.map_congr_left; intro i hi
  have := List.mem_range.mp hi
  simp; lia
theorem srcE_rng3 {a n : Nat} {b : Int} (hh : A.handled = none) (ha : a < 100000000) (hz : -1 ≤ b ∧ b < 100000000) (hn : n = ((a : Int) - b).toNat) (x1 : Ev prog w A K env ρ R func (.val (.type "range"))) (x2 : Ev prog w A K env ρ R e (.int a)) (x3 : Ev prog w A K env ρ R e1 (.int b)) (x4 : Ev prog w A K env ρ R e2 (.int (-1)))
    (he : starEach [e, e1, e2] env = (false, eval e env) :: starEach [e1, e2] env := by rfl) (he1 : starEach [e1, e2] env = (false, eval e1 env) :: starEach [e2] env := by rfl) (he2 : starEach [e2] env = [(false, eval e2 env)] := by rfl)
    (he' : eval (.Call func [e, e1, e2] [] pos) env = (do callWith pos (← eval func env) [] (backTo pos (starEach [e, e1, e2] env)) (backToKw pos (keywordEach [] env))) := by rfl) :
    SrcE prog w A K env ρ R (.Call func [e, e1, e2] [] pos) (.Name x px) [x] ((List.range n).map fun i => [PV.int ((a - i : Nat) : Int)]) := (srcE_range3 hh (by lia) hz hn x1 x2 x3 x4 he he1 he2 he').cast (rangeL_dn a n (by lia))
end
end Mine
namespace Mine
open PySem PySem.W PyProof.Rows
theorem bindL_get {kd : Str → Option NameKind} : ∀ (b : List (Str × Value)) (m : Str → Option Value) {x : Str}, x ∉ b.map (·.1) → bindL kd b m x = m x
  | [], _, _, _ => rfl
  | (n, v) :: r, m, x, h => by
    rw [List.map_cons, List.mem_cons, not_or] at h
    unfold bindL
    rw [bindL_get r _ h.2]
    split
    · simp [h.1]
    · rfl
theorem bindL_mem {kd : Str → Option NameKind} : ∀ {b : List (Str × Value)} (m : Str → Option Value) {x : Str} {v : Value}, (b.map (·.1)).Nodup → (x, v) ∈ b → kd x = some .local → bindL kd b m x = some v
  | (n, u) :: r, m, x, v, nd, h, k => by
    rw [List.map_cons, List.nodup_cons] at nd
    rcases List.mem_cons.mp h with e | h
    · cases e
      unfold bindL
      rw [bindL_get r _ nd.1, if_pos k]; simp
    · unfold bindL; exact bindL_mem _ nd.2 h k
theorem bindC_get {kd : Str → Option NameKind} : ∀ (b : List (Str × Value)) (m : Str → Option Value) {x : Str}, x ∉ b.map (·.1) → bindC kd b m x = m x
  | [], _, _, _ => rfl
  | (n, v) :: r, m, x, h => by
    rw [List.map_cons, List.mem_cons, not_or] at h
    unfold bindC
    rw [bindC_get r _ h.2]
    split
    · rfl
    · simp [h.1]
theorem bindC_mem {kd : Str → Option NameKind} : ∀ {b : List (Str × Value)} (m : Str → Option Value) {x : Str} {v : Value}, (b.map (·.1)).Nodup → (x, v) ∈ b → kd x ≠ some .local → bindC kd b m x = some v
  | (n, u) :: r, m, x, v, nd, h, k => by
    rw [List.map_cons, List.nodup_cons] at nd
    rcases List.mem_cons.mp h with e | h
    · cases e
      unfold bindC
      rw [bindC_get r _ nd.1, if_neg k]; simp
    · unfold bindC; exact bindC_mem _ nd.2 h k
theorem zip_den {c : Heap} : ∀ {names : List Str} {ps : List PV} {vals : List Value}, DenL c vals ps → ∀ {x : Str} {op : Option PV}, (x, op) ∈ names.zip (ps.map some) → ∃ v p, op = some p ∧ (x, v) ∈ names.zip vals ∧ Den c v p
  | [], _, _, _, _, _, h => by simp at h
  | n :: names, [], [], _, _, _, h => by simp at h
  | n :: names, p :: ps, v :: vals, d, x, op, h => by
    simp only [DenL] at d
    simp only [List.map_cons, List.zip_cons_cons, List.mem_cons] at h
    rcases h with e | h
    · cases e; exact ⟨v, p, rfl, by simp, d.1⟩
    · obtain ⟨v', p', e, hm, dd⟩ := zip_den d.2 h
      exact ⟨v', p', e, by simp [hm], dd⟩
  | _ :: _, [], _ :: _, d, _, _, _ => by simp [DenL] at d
  | _ :: _, _ :: _, [], d, _, _, _ => by simp [DenL] at d
/-- a def's block: its parameters, its other names -/
noncomputable def scOk (sc : Scope) (names ls : List Str) : Bool :=
  (sc.kind == .function) && !sc.isCoroutine && !sc.isGenerator && decide ((names ++ ls).Nodup) && ((names ++ ls).all fun x => ((sc.names.lookup x == some .local) || (sc.names.lookup x == some .cell)) && !(x == ("__debug__" : Str)))
noncomputable def IsDefD (dV : Value) (c : Heap) (f : Addr) : Stmt → Prop
  | .FunctionDef _ a b _ _ _ sc _ _ _ => ∃ nm qn kV doc pm an cd ct o, c.get? f = some o ∧ o.data = .func (fnOf nm qn a b sc dV kV doc pm an cd ct) ∧ c.CodeRec cd qn
  | _ => False
theorem IsDefD.up {dV : Value} {c c' : Heap} {f : Addr} {st : Stmt} (D : IsDefD dV c f st) (k : Up c c') : IsDefD dV c' f st := by
  cases st with
  | FunctionDef n a b ds ret tp sc ts bd pos =>
    obtain ⟨nm, qn, kV, doc, pm, an, cd, ct, o, h1, h2, h3⟩ := D
    exact ⟨nm, qn, kV, doc, pm, an, cd, ct, o, k _ _ h1, h2, h3.keeps k⟩
  | _ => exact D.elim
section
variable {prog : Program} {w : World} {A : Around} {K c c' h h' : Heap} {G : Org} {env cenv : Env} {ρ ρ' caps : Vars} {R R' : Led} {g : Array GenState} {d : Drawn} {t : Nat} {o : OsState}
theorem enterPD {f : Addr} {vals vals0 : List Value} {dV : Value} {ps : List PV} {n : Str} {a : Arguments} {b : List Stmt} {ds : List Expr} {ret : Option Expr} {tp : List TypeParam} {sc : Scope} {ts : Option Scope} {bd : Str} {pos : Pos} {k : Nat} {Q E : Value → Shared → Prop}
    (names ls : List Str) (X : Led) (hdef : IsDefD dV c f (.FunctionDef n a b ds ret tp sc ts bd pos)) (u : Up c h) (lim : c.NoLimit) (room : Rm A (k + 1)) (dv : DenL c vals ps)
    (hX : ∀ q ∈ X, c.get? q.1 = none ∧ ∃ xs, h.PlainList q.1 xs.toArray ∧ DenL c xs q.2) (ndX : (X.map (·.1)).Nodup)
    (hb : ∀ nm qn kV doc pm an cd ct, BindsTo ⟨h, g, d, t, o⟩ (fnOf nm qn a b sc dV kV doc pm an cd ct) ⟨vals0, []⟩ (names.zip vals)) (hn : names.length = ps.length)
    (hls : scOk sc names ls = true)
    (KK : ∀ env h₁ t₁, env.scope = sc → env.globals = mainGlobals → env.builtins = builtinsNs → Rm (A.deeper env) k → Fr ⟨c, h, X.map (·.1), true⟩ c env (names.zip (ps.map some) ++ ls.map fun x => (x, none)) X h₁ →
      wpAny (model prog w) (A.deeper env) (execs b env) (fun fl s' => Q (match fl with | .ret v => v | _ => .none) s') (fun _ _ => False) ⟨h₁, g, d, t₁, o⟩) :
    wpAny (model prog w) A (call (.ref f) vals0) Q E ⟨h, g, d, t, o⟩ := by
  obtain ⟨nm, qn, kV, doc, pm, an, cd, ct, ob, h1, h2, h3⟩ := hdef
  simp only [scOk, Bool.and_eq_true, decide_eq_true_eq, Bool.not_eq_true', beq_iff_eq, List.all_eq_true, Bool.or_eq_true] at hls
  obtain ⟨⟨⟨⟨hk, hco⟩, hge⟩, hnd⟩, hall⟩ := hls
  have hvl : names.length = vals.length := by rw [hn, dv.length]
  have mapz : (names.zip vals).map (·.1) = names := by
    have : ∀ (a : List Str) (b : List Value), a.length = b.length → (a.zip b).map (·.1) = a := by
      intro a
      induction a with
      | nil => intro b _; simp
      | cons x a ih => intro b hb; cases b with | nil => simp at hb | cons y b => simp only [List.zip_cons_cons, List.map_cons]; rw [ih b (by simpa using hb)]
    exact this _ _ hvl
  have mapz2 : (names.zip (ps.map some)).map (·.1) = names := by
    have : ∀ (a : List Str) (b : List (Option PV)), a.length = b.length → (a.zip b).map (·.1) = a := by
      intro a
      induction a with
      | nil => intro b _; simp
      | cons x a ih => intro b hb; cases b with | nil => simp at hb | cons y b => simp only [List.zip_cons_cons, List.map_cons]; rw [ih b (by simpa using hb)]
    exact this _ _ (by simpa using hn)
  have cellSome : ∀ x ∈ names ++ ls, sc.names.lookup x = some .cell → ((cellsFrom (h.objs.size + 1) sc.names []).lookup x).isSome = true := fun x hx e => cellsFrom_some _ _ _ (.inl e)
  have hbind := hb nm qn kV doc pm an cd ct
  refine wpAny_call (codeAny_call_function (s := ⟨h, g, d, t, o⟩) (fd := fnOf nm qn a b sc dV kV doc pm an cd ct) (body := b) room.room (u _ _ h1) h2 hco hge rfl (h3.keeps u) (hbind _ _ _ _ ?_))
  refine wpAny_newFunctionEnv_cells (scope := sc) (binds := names.zip vals) hk (fun q hq => ?_) fun env he s₁ x => ?_
  · have hm : q.1 ∈ names := by rw [← mapz]; exact List.mem_map_of_mem hq
    rcases (hall q.1 (List.mem_append_left _ hm)).1 with e | e
    · exact .inl e
    · exact .inr ⟨e, cellSome _ (List.mem_append_left _ hm) e⟩
  · obtain rfl : env = callEnvC (fnOf nm qn a b sc dV kV doc pm an cd ct) h.objs.size f := he
    refine ⟨(lim.keeps u).keeps x.toInCall.keep, codeAny_func ?_⟩
    obtain ⟨h₁, t₁, rfl⟩ := x.toInCall.same
    have up : Up h h₁ := fun b' o' e => x.toInCall.keep b' o' e
    have hns := x.toInCall.ns
    have fresh : ∀ (b' : Addr), h.objs.size ≤ b' → h.get? b' = none := fun b' hb' => by
      cases e : h.get? b' with
      | none => rfl
      | some o' => exact absurd (Heap.lt_size e) (Nat.not_lt.mpr hb')
    have cabove : ∀ y b', (callEnvC (fnOf nm qn a b sc dV kV doc pm an cd ct) h.objs.size f).cells.lookup y = some b' → h.objs.size < b' := fun y b' e => x.above y b' (PySem.mem_of_lookup e)
    have cnone : ∀ b', h.get? b' = none → c.get? b' = none := fun b' e => by
      cases q : c.get? b' with
      | none => rfl
      | some o' => have := u _ _ q; rw [e] at this; cases this
    have Xlive : ∀ q ∈ X, ∃ ob, h.get? q.1 = some ob := fun q hq => by obtain ⟨_, _, ⟨m, e⟩, _⟩ := hX q hq; exact ⟨_, e⟩
    refine wpAny_mono (KK (callEnvC (fnOf nm qn a b sc dV kV doc pm an cd ct) h.objs.size f) h₁ t₁ rfl rfl rfl room.deep ⟨fun y => if sc.names.lookup y = some .cell then .own (((callEnvC (fnOf nm qn a b sc dV kV doc pm an cd ct) h.objs.size f).cells.lookup y).getD 0) else .loc, ?_⟩) (fun _ _ q => q) (fun _ _ q => q.elim)
    have kdef : ∀ y, (callEnvC (fnOf nm qn a b sc dV kV doc pm an cd ct) h.objs.size f).kindOf y = sc.names.lookup y := fun y => rfl
    have keysAll : (names.zip (ps.map some) ++ ls.map fun x => ((x, none) : Str × Option PV)).map (·.1) = names ++ ls := by
      rw [List.map_append, mapz2, List.map_map]; simp [Function.comp_def]
    have inAll : ∀ q ∈ (names.zip (ps.map some) ++ ls.map fun x => ((x, none) : Str × Option PV)), q.1 ∈ names ++ ls := fun q hq => by rw [← keysAll]; exact List.mem_map_of_mem hq
    have ownA : ∀ q ∈ (names.zip (ps.map some) ++ ls.map fun x => ((x, none) : Str × Option PV)), ∀ b', (if sc.names.lookup q.1 = some .cell then Pl.own (((callEnvC (fnOf nm qn a b sc dV kV doc pm an cd ct) h.objs.size f).cells.lookup q.1).getD 0) else .loc) = .own b' →
        sc.names.lookup q.1 = some .cell ∧ (callEnvC (fnOf nm qn a b sc dV kV doc pm an cd ct) h.objs.size f).cells.lookup q.1 = some b' := fun q hq b' e => by
      split at e
      · rename_i hc
        refine ⟨hc, ?_⟩
        obtain ⟨z, hz⟩ := Option.isSome_iff_exists.mp (cellSome _ (inAll q hq) hc)
        have hz' : (callEnvC (fnOf nm qn a b sc dV kV doc pm an cd ct) h.objs.size f).cells.lookup q.1 = some z := hz
        rw [hz'] at e ⊢; cases e; rfl
      · cases e
    have denOf : ∀ q ∈ (names.zip (ps.map some) ++ ls.map fun x => ((x, none) : Str × Option PV)), ∀ p, q.2 = some p → ∃ v, (q.1, v) ∈ names.zip vals ∧ Den c v p := fun q hq p e => by
      rcases List.mem_append.mp hq with hq | hq
      · obtain ⟨v, p', e', hm, dd⟩ := zip_den dv hq
        rw [e] at e'; cases e'; exact ⟨v, hm, dd⟩
      · obtain ⟨y, _, rfl⟩ := List.mem_map.mp hq; cases e
    have ndz : ((names.zip vals).map (·.1)).Nodup := by rw [mapz]; exact (List.nodup_append.mp hnd).1
    exact {
      ex := (Ext.grow u up).sub
      fn := hk
      ns := ⟨_, hns⟩
      vars := fun q hq => by
        refine ⟨(hall q.1 (inAll q hq)).2, ?_⟩
        split
        · rename_i hc
          obtain ⟨z, hz⟩ := Option.isSome_iff_exists.mp (cellSome _ (inAll q hq) hc)
          have hz' : (callEnvC (fnOf nm qn a b sc dV kV doc pm an cd ct) h.objs.size f).cells.lookup q.1 = some z := hz
          rw [hz']
          refine ⟨hc, hz', _, x.cell _ _ hz', fun p e => ?_⟩
          obtain ⟨v, hm, dd⟩ := denOf q hq p e
          exact ⟨v, bindC_mem _ ndz hm (by rw [kdef, hc]; decide), dd⟩
        · rename_i hc
          have hl : sc.names.lookup q.1 = some .local := by rcases (hall q.1 (inAll q hq)).1 with e | e; exact e; exact absurd e hc
          refine ⟨hl, _, hns, fun p e => ?_⟩
          obtain ⟨v, hm, dd⟩ := denOf q hq p e
          exact ⟨v, bindL_mem _ ndz hm hl, dd⟩
      kn := by rw [keysAll]; exact hnd
      rl := fun q hq => by obtain ⟨_, xs, hl, dl⟩ := hX q hq; exact ⟨xs, hl.at fun o e => up _ o e, dl⟩
      n1 := fun q hq b' e => by
        obtain ⟨_, e2⟩ := ownA q hq b' e
        have lt := cabove _ _ e2
        refine ⟨Nat.ne_of_gt lt, fun z => ?_⟩
        obtain ⟨r, hr, rfl⟩ := List.mem_map.mp z
        obtain ⟨ob', e3⟩ := Xlive r hr
        rw [fresh _ (Nat.le_of_lt lt)] at e3; cases e3
      n2 := fun q hq r hr b' e e' => by
        obtain ⟨_, e2⟩ := ownA q hq b' e
        obtain ⟨_, e3⟩ := ownA r hr b' e'
        exact name_of_addr x.apart (PySem.mem_of_lookup e2) (PySem.mem_of_lookup e3)
      n3 := fun z => by
        obtain ⟨r, hr, e⟩ := List.mem_map.mp z
        obtain ⟨ob', e3⟩ := Xlive r hr
        have e' : r.1 = h.objs.size := e
        rw [e', fresh _ (Nat.le_refl _)] at e3; cases e3
      n4 := ndX
      nc := fun b' z => by
        rcases z with z | ⟨q, hq, e⟩ | z
        · have z : b' = h.objs.size := z
          rw [z]; exact cnone _ (fresh _ (Nat.le_refl _))
        · obtain ⟨_, e2⟩ := ownA q hq b' e
          exact cnone _ (fresh _ (Nat.le_of_lt (cabove _ _ e2)))
        · obtain ⟨r, hr, rfl⟩ := List.mem_map.mp z; exact (hX r hr).1
      xo := fun b' z => by
        rcases z with z | ⟨q, hq, e⟩ | z
        · have z : b' = h.objs.size := z
          rw [z]; exact .inr (fresh _ (Nat.le_refl _))
        · obtain ⟨_, e2⟩ := ownA q hq b' e
          exact .inr (fresh _ (Nat.le_of_lt (cabove _ _ e2)))
        · exact .inl z
      nf := fun _ q hq b' e => by split at e <;> cases e
      cv := fun y b' e => by obtain ⟨ob', ho', _⟩ := x.cell y b' e; exact ⟨ob', ho'⟩ }
theorem enterP {f : Addr} {vals : List Value} {ps : List PV} {n : Str} {a : Arguments} {b : List Stmt} {ds : List Expr} {ret : Option Expr} {tp : List TypeParam} {sc : Scope} {ts : Option Scope} {bd : Str} {pos : Pos} {k : Nat} {Q E : Value → Shared → Prop}
    (names ls : List Str) (X : Led) (hdef : IsDef c f (.FunctionDef n a b ds ret tp sc ts bd pos)) (u : Up c h) (lim : c.NoLimit) (room : Rm A (k + 1)) (dv : DenL c vals ps)
    (hX : ∀ q ∈ X, c.get? q.1 = none ∧ ∃ xs, h.PlainList q.1 xs.toArray ∧ DenL c xs q.2) (ndX : (X.map (·.1)).Nodup)
    (hb : ∀ nm qn kV doc pm an cd ct, bindArgs (fnOf nm qn a b sc .none kV doc pm an cd ct) ⟨vals, []⟩ = pure (names.zip vals)) (hn : names.length = ps.length)
    (hls : scOk sc names ls = true)
    (KK : ∀ env h₁ t₁, env.scope = sc → env.globals = mainGlobals → env.builtins = builtinsNs → Rm (A.deeper env) k → Fr ⟨c, h, X.map (·.1), true⟩ c env (names.zip (ps.map some) ++ ls.map fun x => (x, none)) X h₁ →
      wpAny (model prog w) (A.deeper env) (execs b env) (fun fl s' => Q (match fl with | .ret v => v | _ => .none) s') (fun _ _ => False) ⟨h₁, g, d, t₁, o⟩) :
    wpAny (model prog w) A (call (.ref f) vals) Q E ⟨h, g, d, t, o⟩ := by
  exact enterPD (n := n) (ds := ds) (ret := ret) (tp := tp) (ts := ts) (bd := bd) (pos := pos) names ls X (dV := .none) hdef u lim room dv hX ndX (fun nm qn kV doc pm an cd ct => .of_eq (hb nm qn kV doc pm an cd ct)) hn hls KK
end
end Mine
namespace Mine
open PySem PySem.W PyProof.Rows
section
variable {prog : Program} {w : World} {A : Around} {K c c' h h' : Heap} {G : Org} {env cenv : Env} {ρ ρ' caps : Vars} {R R' : Led} {g : Array GenState} {d : Drawn} {t : Nat} {o : OsState} {Q : Flow → Shared → Prop} {E : Value → Shared → Prop}
variable {x : Str} {p q r : PV} {px pos : Pos} {e value : Expr} {body orelse rest : List Stmt} {st : Stmt} {b : Bool}

theorem s_asg (x1 : Ev prog w A K env ρ R value p) (u : Up K c) (F : Fr G c env ρ R h) (U : PutP x p ρ ρ') (k : ∀ c' h' t', Up c c' → Fr G c' env ρ' R h' → wpAny (model prog w) A (execs rest env) Q E ⟨h', g, d, t', o⟩)
    (gf : G.fn = true := by first | rfl | assumption) (hs : swapsWith value (some (.Name x px)) pos.line env = pure false := by rfl) :
    wpAny (model prog w) A (execs (.Assign [.Name x px] value pos :: rest) env) Q E ⟨h, g, d, t, o⟩ :=
  wpAny_execs_cons (wpAny_Assign_Name (x1.use u F fun _ _ _ _ y1 F1 d1 => F1.stn U d1 (.inl gf) fun h2 t2 F2 => k _ h2 t2 y1.cc F2) hs)
/-- in-place operations -/
noncomputable def In2 (prog : Program) (w : World) (A : Around) (op : Operator) (p q r : PV) : Prop := ∀ c h v u, Up c h → Den c v p → Den c u q → Pu prog w A c h (inplaceOp op v u) r
theorem s_aug {op : Operator} (m : (x, some p) ∈ ρ) (x1 : Ev prog w A K env ρ R value q) (y : In2 prog w A op p q r) (u : Up K c) (F : Fr G c env ρ R h) (U : PutP x r ρ ρ')
    (k : ∀ c' h' t', Up c c' → Fr G c' env ρ' R h' → wpAny (model prog w) A (execs rest env) Q E ⟨h', g, d, t', o⟩) (gf : G.fn = true := by first | rfl | assumption) :
    wpAny (model prog w) A (execs (.AugAssign (.Name x px) op value pos :: rest) env) Q E ⟨h, g, d, t, o⟩ :=
  wpAny_execs_cons (wpAny_AugAssign_Name (F.ldn m fun v dv => x1.use u F fun _ _ _ _ y1 F1 d1 => y _ _ _ _ F1.up (Den.up y1.cc _ dv) d1 _ _ _ _ _ _ fun _ _ _ _ y2 d2 =>
    (F1.ext y2).stn U d2 (.inl gf) fun h2 t2 F2 => k _ h2 t2 (y1.cc.trans y2.cc) F2))
theorem s_ret (x1 : Ev prog w A K env ρ R e p) (u : Up K c) (F : Fr G c env ρ R h) (k : ∀ c' v h' t', Ext [] c h c' h' → Fr G c' env ρ R h' → Den c' v p → Q (.ret v) ⟨h', g, d, t', o⟩) :
    wpAny (model prog w) A (execs (.Return (some e) pos :: rest) env) Q E ⟨h, g, d, t, o⟩ :=
  wpAny_execs_cons (wpAny_Return_some (x1.use u F fun c' v h' t' y1 F1 d1 => k c' v h' t' y1 F1 d1))
theorem s_if (x1 : EvB prog w A K env ρ R e b) (u : Up K c) (F : Fr G c env ρ R h)
    (k : ∀ c' h' t', Up c c' → Fr G c' env ρ R h' → wpAny (model prog w) A (execs (if b then body else orelse) env) (fun f s' => match f with | .next => wpAny (model prog w) A (execs rest env) Q E s' | f => Q f s') E ⟨h', g, d, t', o⟩) :
    wpAny (model prog w) A (execs (.If e body orelse pos :: rest) env) Q E ⟨h, g, d, t, o⟩ :=
  wpAny_execs_cons (wpAny_If (x1.use u F fun c' h' t' y1 F1 => by
    have := k c' h' t' y1.cc F1
    cases b <;> exact this))
theorem s_ifF (x1 : EvB prog w A K env ρ R e false) (u : Up K c) (F : Fr G c env ρ R h) (k : ∀ c' h' t', Up c c' → Fr G c' env ρ R h' → wpAny (model prog w) A (execs rest env) Q E ⟨h', g, d, t', o⟩) :
    wpAny (model prog w) A (execs (.If e body [] pos :: rest) env) Q E ⟨h, g, d, t, o⟩ := s_if x1 u F fun c' h' t' u' F' => wpAny_execs_nil (k c' h' t' u' F')
theorem s_nil (k : Q .next ⟨h, g, d, t, o⟩) : wpAny (model prog w) A (execs [] env) Q E ⟨h, g, d, t, o⟩ := wpAny_execs_nil k
/-- a while: I between the turns, J behind the loop -/
theorem s_while {test : Expr} (I : Nat → Heap → Heap → Prop) (J : Heap → Heap → Prop) (n : Nat) (h0 : I n c h) (u0 : Up K c)
    (turn : ∀ n c h t, Up K c → I n c h → wpAny (model prog w) A (isTrue test env (eval test env)) (fun b s₂ =>
      if b then wpAny (model prog w) A (execs body env) (fun f s₃ => match f with
          | .next | .cont => ∃ m c' h' t', m < n ∧ Up c c' ∧ I m c' h' ∧ s₃ = ⟨h', g, d, t', o⟩
          | .brk => ∃ c' h' t', Up c c' ∧ J c' h' ∧ s₃ = ⟨h', g, d, t', o⟩
          | .ret v => Q (.ret v) s₃) (fun _ _ => False) s₂
      else ∃ c' h' t', Up c c' ∧ J c' h' ∧ s₂ = ⟨h', g, d, t', o⟩) (fun _ _ => False) ⟨h, g, d, t, o⟩)
    (fin : ∀ c h t, Up K c → J c h → wpAny (model prog w) A (execs rest env) Q E ⟨h, g, d, t, o⟩) :
    wpAny (model prog w) A (execs (.While test body [] pos :: rest) env) Q E ⟨h, g, d, t, o⟩ := by
  refine wpAny_execs_cons (r_while (fun n h => ∃ c, Up K c ∧ I n c h) (fun h => ∃ c, Up K c ∧ J c h) n ⟨c, u0, h0⟩ ?_ ?_)
  · rintro n h t ⟨c, u, hI⟩
    refine wpAny_mono (turn n c h t u hI) (fun b s₂ hb => ?_) fun _ _ q => q
    cases b with
    | false => obtain ⟨c', h', t', u', hj, e⟩ := hb; exact ⟨h', t', ⟨c', u.trans u', hj⟩, e⟩
    | true =>
      refine wpAny_mono hb (fun f s₃ hf => ?_) fun _ _ q => q
      cases f with
      | next => obtain ⟨m, c', h', t', hm, u', hi, e⟩ := hf; exact ⟨m, h', t', hm, ⟨c', u.trans u', hi⟩, e⟩
      | cont => obtain ⟨m, c', h', t', hm, u', hi, e⟩ := hf; exact ⟨m, h', t', hm, ⟨c', u.trans u', hi⟩, e⟩
      | brk => obtain ⟨c', h', t', u', hj, e⟩ := hf; exact ⟨h', t', ⟨c', u.trans u', hj⟩, e⟩
      | ret v => exact hf
  · rintro h t ⟨c, u, hj⟩; exact fin c h t u hj
/-- a while whose test is told -/
theorem w_test {test : Expr} (x1 : EvB prog w A K env ρ R test b) (u : Up K c) (F : Fr G c env ρ R h) {P : Bool → Shared → Prop}
    (k : ∀ c' h' t', Up c c' → Fr G c' env ρ R h' → P b ⟨h', g, d, t', o⟩) : wpAny (model prog w) A (isTrue test env (eval test env)) P E ⟨h, g, d, t, o⟩ := x1.use u F fun c' h' t' y1 F1 => k c' h' t' y1.cc F1
theorem s_for {α : Type} {iter target : Expr} {xs : List Str} {items : List (List PV)} (src : SrcE prog w A K env ρ R iter target xs items) (V : α → Vars) (V1 : α → List PV → Vars) (RR : α → Led) (J : Nat → α → Heap → Prop) (y0 : α)
    (hV : V y0 = ρ) (hR : RR y0 = R) (F : Fr G c env ρ R h) (u : Up K c) (j0 : ∀ c', Up c c' → J 0 y0 c')
    (hput : ∀ y its, its ∈ items → PutsP xs its (V y) (V1 y its))
    (turn : ∀ i its G' c y h t, items[i]? = some its → G'.fn = true → Up K c → J i y c → Fr G' c env (V1 y its) (RR y) h → (∀ c' ρ' R' h', Fr G' c' env ρ' R' h' → Fr G c' env ρ' R' h' ∧ Up c c') →
      wpAny (model prog w) A (execs body env) (fun f s₃ => match f with
        | .next | .cont => ∃ c' y' h' t', J (i + 1) y' c' ∧ Fr G' c' env (V y') (RR y') h' ∧ s₃ = ⟨h', g, d, t', o⟩
        | .brk => wpAny (model prog w) A (execs rest env) Q E s₃
        | .ret v => Q (.ret v) s₃) (fun _ _ => False) ⟨h, g, d, t, o⟩)
    (fin : ∀ c y h t, Up K c → J items.length y c → Fr G c env (V y) (RR y) h → wpAny (model prog w) A (execs rest env) Q E ⟨h, g, d, t, o⟩)
    (gf : G.fn = true := by first | rfl | assumption) (hs : ∀ x, foldedSetIterable iter env x = pure x := by intro _; rfl) :
    wpAny (model prog w) A (execs (.For target iter body [] pos :: rest) env) Q E ⟨h, g, d, t, o⟩ := by
  subst hV hR
  refine wpAny_execs_cons (wpAny_For (src G c h u F g d t o _ _ fun I fp wr Si c' h' t' x S hs0 hw => ?_) hs)
  have F' := F.ext x
  have S' : Src prog w A c' target xs I fp wr items Si := S
  refine r_forP S' V V1 RR J y0 F' (Off.fresh F hw) (.refl _) (j0 c' x.cc) hs0 (.inl gf) hput (fun i its G' c2 y h t hi gf' uc hj F2 back => ?_) (fun c2 y h t uc hj F2 => fin c2 y h t (u.trans (x.cc.trans uc)) hj F2)
  refine wpAny_mono (turn i its G' c2 y h t hi (gf'.trans gf) (u.trans (x.cc.trans uc)) hj F2 back) (fun f s₃ q => ?_) fun _ _ q => q
  cases f with
  | next => exact q
  | cont => exact q
  | brk => exact q
  | ret v => exact q
/-- the contract of a def that reads alone: from its block's run -/
theorem cl_of {f : Addr} {n : Str} {a : Arguments} {bd : List Stmt} {ds : List Expr} {ret : Option Expr} {tp : List TypeParam} {sc : Scope} {ts : Option Scope} {bn : Str} {pos : Pos} {k : Nat} {ps : List PV} {r : PV}
    (names ls : List Str) (hdef : IsDef K f (.FunctionDef n a bd ds ret tp sc ts bn pos)) (lim : K.NoLimit) (room : Rm A (k + 1))
    (hb : ∀ vals, vals.length = names.length → ∀ nm qn kV doc pm an cd ct, bindArgs (fnOf nm qn a bd sc .none kV doc pm an cd ct) ⟨vals, []⟩ = pure (names.zip vals)) (hn : names.length = ps.length) (hls : scOk sc names ls = true)
    (run : ∀ env G c h g d t o (Q : Flow → Shared → Prop), G.fn = true → env.scope = sc → env.globals = mainGlobals → env.builtins = builtinsNs → Rm (A.deeper env) k → Up K c → Fr G c env (names.zip (ps.map some) ++ ls.map fun x => (x, none)) [] h →
      (∀ c' ρ' R' v h' t', Fr G c' env ρ' R' h' → Den c' v r → Q (.ret v) ⟨h', g, d, t', o⟩) → wpAny (model prog w) (A.deeper env) (execs bd env) Q (fun _ _ => False) ⟨h, g, d, t, o⟩) :
    Cl prog w A K (.ref f) ps r := fun c h vals u uc dv g d t o Q E kk => by
  refine enterP names ls [] (hdef.up u) uc ((lim.keeps u)) room dv (by simp) (by simp) (hb vals (by rw [dv.length, hn])) hn hls fun env h₁ t₁ e1 e2 e3 rm F => ?_
  exact run env _ c h₁ g d t₁ o _ rfl e1 e2 e3 rm u F fun c' ρ' R' v h' t' F' dv' => kk c' v h' t' F'.ex dv'
end
end Mine
namespace Mine
open PySem PySem.W PyProof.Rows
section
variable {prog : Program} {w : World} {A : Around} {K c c' h h' : Heap} {G : Org} {env cenv : Env} {ρ ρ' caps : Vars} {R R' : Led} {g : Array GenState} {d : Drawn} {t : Nat} {o : OsState} {e e1 e2 value slice : Expr} {ps qs : List PV} {x y : Str} {px py pos sp : Pos} {l m : List Nat}

theorem op_ladd (hz : ps.length + qs.length < 1000000) : Op2 prog w A .Add (.list ps) (.list qs) (.list (ps ++ qs)) := fun c h v u k d1 d2 g d t o Q E q => by
  simp only [Den] at d1 d2; obtain ⟨a, vs, rfl, ha, da⟩ := d1; obtain ⟨b, us, rfl, hb, db⟩ := d2
  obtain ⟨n, ho⟩ := ha
  obtain ⟨n2, ho2⟩ := hb
  have e : vs.toArray ++ us.toArray = (vs ++ us).toArray := by simp
  have lv := da.length
  have lu := db.length
  refine concat_meets ⟨_, k _ _ ho, rfl⟩ ⟨_, k _ _ ho2, rfl⟩ noFill_list_add seq_list_add PySem.F.slot_list_add PySem.F.entry_list_add (PySem.F.args_list_add_2 _ _) (list_addW a b vs.toArray us.toArray n n2 none none #[] #[] (by rw [sizeLine_eq]; simp; lia)) ⟨k _ _ ho, k _ _ ho2, ?_⟩
  rw [e]
  obtain ⟨c', x', e'⟩ := Ext.alloc (c := c) (h := h) (h' := h.push { cls := .type "list", data := .seq (vs ++ us).toArray }) k (up_push _) fresh_none (Heap.get?_push_size _ rfl)
  refine q c' _ _ _ x' ?_
  simp only [Den]
  exact ⟨_, vs ++ us, rfl, ⟨0, e'⟩, DenL.append (DenL.up x'.cc _ da) (DenL.up x'.cc _ db)⟩
theorem it_item {i : Nat} {p : PV} (hi : ps[i]? = some p) (hz : i < 1000000)
    (hs : ∀ a u, subscripted slice false (.ref a) (.int (i : Int) u) = operate [.ref a, .int (i : Int) u] (getItem (.ref a) (.int (i : Int) u)) := by intro _ _; with_unfolding_all rfl) : It2 prog w A value slice (.list ps) (.int i) p :=
  fun c h v u k d1 d2 g d t o Q E q => by
    simp only [Den] at d1 d2; obtain ⟨a, vs, rfl, ha, da⟩ := d1; obtain ⟨tk, rfl⟩ := d2
    obtain ⟨v, hv, dv⟩ := da.get hi
    exact r_item (den_list_iter ha k) hz hv (q _ _ _ _ (.refl k) dv) (hs _ _)
theorem it_neg {i : Nat} {p : PV} (hi : ps[ps.length - i]? = some p) (h1 : 1 ≤ i) (h2 : i ≤ ps.length) (hz : ps.length < 1000000) {j : Int} (hj : j = -(i : Int))
    (hs : ∀ a u, subscripted slice false (.ref a) (.int j u) = operate [.ref a, .int j u] (getItem (.ref a) (.int j u)) := by intro _ _; with_unfolding_all rfl) : It2 prog w A value slice (.list ps) (.int j) p :=
  fun c h v u k d1 d2 g d t o Q E q => by
    simp only [Den] at d1 d2; obtain ⟨a, vs, rfl, ha, da⟩ := d1; obtain ⟨tk, rfl⟩ := d2
    obtain ⟨v, hv, dv⟩ := da.get hi
    have lv := da.length
    have hl := den_list_iter ha k
    exact tail_any hl.typeIs slot_list_getitem.lookup (wpAny_getItem_list_neg hl (by lia) (by simp; lia) (by lia) (by
      have : (j + (vs.toArray.size : Int)).toNat = ps.length - i := by simp; lia
      rw [this]; simpa using hv) (q _ _ _ _ (.refl k) dv)) (hs _ _)

/-- a part of a slice -/
noncomputable def EvO (prog : Program) (w : World) (A : Around) (K : Heap) (env : Env) (ρ : Vars) (R : Led) (oe : Option Expr) (oi : Option Int) : Prop :=
  ∀ (G : Org) (c h : Heap), Up K c → Fr G c env ρ R h → ∀ (g : Array GenState) (d : Drawn) (t : Nat) (o : OsState) (Q E : Value → Shared → Prop),
    (∀ c' v h' t', Ext [] c h c' h' → Fr G c' env ρ R h' → IsPart v oi → Q v ⟨h', g, d, t', o⟩) → wpAny (model prog w) A (evalPart oe env) Q E ⟨h, g, d, t, o⟩
theorem evo_none : EvO prog w A K env ρ R none none := fun _ _ _ _ F _ _ _ _ _ _ k => evalPart_none_step (k _ _ _ _ (.refl F.up) F .none)
theorem evo_some {i : Int} (x1 : Ev prog w A K env ρ R e (.int i)) : EvO prog w A K env ρ R (some e) (some i) := fun _ _ _ u F _ _ _ _ _ _ k => evalPart_some_step (x1.use u F fun _ _ _ _ y1 F1 d1 => by
  simp only [Den] at d1; obtain ⟨tk, rfl⟩ := d1; exact k _ _ _ _ y1 F1 (.int i tk))
noncomputable def slc (ps : List PV) (lo hi : Option Int) : List PV := (ps.drop (lo.elim 0 (clipAt ps.length))).take (hi.elim ps.length (clipAt ps.length) - lo.elim 0 (clipAt ps.length))
theorem slc_all : slc ps none none = ps := by simp [slc]
theorem slc_to (n : Nat) : slc ps none (some (n : Int)) = ps.take n := by
  simp only [slc, Option.elim, clipAt_nat, List.drop_zero, Nat.sub_zero]
  rcases Nat.le_total n ps.length with h | h
  · rw [Nat.min_eq_left h]
  · rw [Nat.min_eq_right h, List.take_of_length_le (Nat.le_refl _), List.take_of_length_le h]
theorem slc_from (n : Nat) : slc ps (some (n : Int)) none = ps.drop n := by
  simp only [slc, Option.elim, clipAt_nat]
  rcases Nat.le_total n ps.length with h | h
  · rw [Nat.min_eq_left h, List.take_of_length_le (by simp)]
  · rw [Nat.min_eq_right h, List.drop_of_length_le (Nat.le_refl _), List.drop_of_length_le h]; simp
theorem ev_lslice {lo hi : Option Int} {lower upper : Option Expr} (x1 : Ev prog w A K env ρ R e1 (.list ps)) (x2 : EvO prog w A K env ρ R lower lo) (x3 : EvO prog w A K env ρ R upper hi) (hz : ps.length < 1000000)
    (hs : ∀ a b, ∃ ops, subscripted (.Slice lower upper none sp) false (.ref a) (.ref b) = operate ops (getItem (.ref a) (.ref b)) := by intro _ _; exact ⟨_, by with_unfolding_all rfl⟩) :
    Ev prog w A K env ρ R (.Subscript e1 (.Slice lower upper none sp) pos) (.list (slc ps lo hi)) := fun G c h u F g d t o Q E k => by
  refine Subscript_ (x1.use u F fun c1 v1 h1 t1 y1 F1 d1 => wpAny_Slice (x2 G c1 h1 (u.trans y1.cc) F1 _ _ _ _ _ _ fun c2 v2 h2 t2 y2 F2 p2 => x3 G c2 h2 ((u.trans y1.cc).trans y2.cc) F2 _ _ _ _ _ _ fun c3 v3 h3 t3 y3 F3 p3 => evalPart_none_step ?_))
  simp only [Den] at d1; obtain ⟨a, vs, rfl, ha, da⟩ := d1
  have ha3 : c3.PlainList a vs.toArray := (ha.at fun ob => y2.cc a ob).at fun ob => y3.cc a ob
  have hl := den_list_iter ha3 F3.up
  obtain ⟨ops, hops⟩ := hs a h3.objs.size
  have lv := da.length
  have lsz : (h3.push { cls := .type "slice", data := .fields #[v2, v3, .none] }).objs.size = h3.objs.size + 1 := Heap.size_push ..
  refine tail_any (Heap.IsList.typeIs (s := ⟨h3.push { cls := .type "slice", data := .fields #[v2, v3, .none] }, g, d, t3, o⟩) (hl.push _)) slot_list_getitem.lookup (wpAny_getItem_list_slice (hl.push _) (Heap.IsSliceOf.new ..) p2 p3 .none (by simp) ?_ (by rw [sizeLine_eq]; simp; lia)) hops
  have y123 := y1.trans (y2.trans y3)
  have k0 : Up h3 (h3.push { cls := .type "slice", data := .fields #[v2, v3, .none] }) := up_push _
  obtain ⟨c', x', e'⟩ := Ext.alloc (c := c3) (h := h3.push { cls := .type "slice", data := .fields #[v2, v3, .none] }) (h' := (h3.push { cls := .type "slice", data := .fields #[v2, v3, .none] }).push { cls := .type "list", data := .seq (slicePick vs.toArray lo hi none) }) (F3.up.trans k0) (up_push _) fresh_none (Heap.get?_push_size _ rfl)
  refine k c' _ _ _ (y123.trans ((Ext.grow F3.up k0).trans x')) ?_
  simp only [Den]
  refine ⟨_, (slicePick vs.toArray lo hi none).toList, rfl, ⟨0, by simpa using e'⟩, ?_⟩
  rw [slicePick_plain]
  have : vs.toArray.size = ps.length := by simp [lv]
  rw [this]
  show DenL c' ((vs.drop _).take _) ((ps.drop _).take _)
  exact DenL.take _ (DenL.drop _ (DenL.up ((y2.cc.trans y3.cc).trans x'.cc) _ da))
/-- slices of texts -/
theorem ev_sto {n : Nat} {upper : Expr} (x1 : Ev prog w A K env ρ R e1 (.str l)) (x3 : EvO prog w A K env ρ R (some upper) (some (n : Int))) (hz : l.length < 10000000)
    (hs : ∀ tk b, subscripted (.Slice none (some upper) none sp) false (.str (tx l) tk) (.ref b) = operate [.ref b, .str (tx l) tk] (getItem (.str (tx l) tk) (.ref b)) := by intro _ _; with_unfolding_all rfl)
    (ht : ∀ tk r, letTemporaryGo e1 (.str (tx l) tk) r = pure () := by intro _ _; with_unfolding_all rfl) :
    Ev prog w A K env ρ R (.Subscript e1 (.Slice none (some upper) none sp) pos) (.str (l.take n)) := fun G c h u F g d t o Q E k => by
  refine Subscript_ (x1.use u F fun c1 v1 h1 t1 y1 F1 d1 => wpAny_Slice (evalPart_none_step (x3 G c1 h1 (u.trans y1.cc) F1 _ _ _ _ _ _ fun c3 v3 h3 t3 y3 F3 p3 => evalPart_none_step ?_)))
  simp only [Den] at d1; obtain ⟨tk, rfl⟩ := d1
  cases p3 with
  | int _ u3 => exact t_sl_to hz (fun h' t' t'' up => k _ _ _ _ ((y1.trans y3).trans (Ext.grow F3.up up)) (by simp [Den])) (hs _ _) (ht _)
/-- lists of ints, of texts -/
theorem ints_are : ∀ {ns : List Int} {vs : List Value}, DenL c vs (ns.map .int) → IntsAre vs ns
  | [], [], _ => .nil
  | n :: ns, v :: vs, d => by
    simp only [List.map_cons, DenL, Den] at d
    obtain ⟨⟨tk, rfl⟩, d⟩ := d
    exact .cons n tk (ints_are d)
  | [], _ :: _, d => by simp [DenL] at d
  | _ :: _, [], d => by simp [DenL] at d
theorem of_ints : ∀ {ns : List Int} {vs : List Value}, IntsAre vs ns → DenL c vs (ns.map .int)
  | _, _, .nil => by simp [DenL]
  | _, _, .cons n tk r => by simp only [List.map_cons, DenL, Den]; exact ⟨⟨tk, rfl⟩, of_ints r⟩
theorem strs_are : ∀ {ls : List (List Nat)} {vs : List Value}, DenL c vs (ls.map .str) → StrsAre vs (ls.map tx)
  | [], [], _ => .nil
  | n :: ns, v :: vs, d => by
    simp only [List.map_cons, DenL, Den] at d
    obtain ⟨⟨tk, rfl⟩, d⟩ := d
    exact .cons _ tk (strs_are d)
  | [], _ :: _, d => by simp [DenL] at d
  | _ :: _, [], d => by simp [DenL] at d
theorem cl_sum {ns : List Int} (hh : A.handled = none) : Cl prog w A K (.builtin "sum") [.list (ns.map .int)] (.int ns.sum) := fun c h vs _ k d1 g d t o Q E q => by
  obtain ⟨v, rfl, d1⟩ := denL1 d1
  · simp only [DenL, Den] at d1; obtain ⟨⟨a, us, rfl, ha, dl⟩, _⟩ := d1
    have hi := ints_are dl
    obtain ⟨xs, e⟩ := hi.allInts.items
    have hns : ns = xs.toList.map (·.1) := by rw [← hi.numsOf, ← nums_intItems, ← e]
    have hl := den_list_iter ha k
    rw [e] at hl
    refine sum_intListG hh hl fun h' tk t' up => q _ _ _ _ (.grow k up) ?_
    simp only [Den]
    refine ⟨t', ?_⟩
    rw [preSum_eq, List.take_of_length_le (by simp), hns]
theorem cl_max {ns : List Int} {M : Int} (hh : A.handled = none) (hm : M ∈ ns) (hM : ∀ a ∈ ns, a ≤ M) : Cl prog w A K (.builtin "max") [.list (ns.map .int)] (.int M) := fun c h vs _ k d1 g d t o Q E q => by
  obtain ⟨v, rfl, d1⟩ := denL1 d1
  · simp only [DenL, Den] at d1; obtain ⟨⟨a, us, rfl, ha, dl⟩, _⟩ := d1
    have hi := ints_are dl
    obtain ⟨xs, e⟩ := hi.allInts.items
    have hns : ns = xs.toList.map (·.1) := by rw [← hi.numsOf, ← nums_intItems, ← e]
    have hl := den_list_iter ha k
    rw [e] at hl
    have hsz : 0 < xs.size := by
      have h3 := List.length_pos_of_mem hm; rw [hns, List.length_map, Array.length_toList] at h3; exact h3
    refine max_intList hh hl hsz fun v h' tk hv up => q _ _ _ _ (.grow k up) ?_
    obtain ⟨tk, rfl⟩ := intItems_at hv
    obtain ⟨h1, h2⟩ := argBest_gt (numAt xs) (xs.size - 1)
    simp only [Den]
    refine ⟨tk, ?_⟩
    have e1 : numAt xs (argBest (fun i j => decide (numAt xs i > numAt xs j)) (xs.size - 1)) ∈ ns := by
      rw [hns, numAt_eq]; exact getD_mem (by rw [List.length_map, Array.length_toList]; lia)
    have e2 : M ≤ numAt xs (argBest (fun i j => decide (numAt xs i > numAt xs j)) (xs.size - 1)) := by
      have hm' := hm
      rw [hns] at hm'
      obtain ⟨j, hj, e3⟩ := mem_getD hm'
      rw [List.length_map, Array.length_toList] at hj
      rw [← e3, ← numAt_eq]; exact h2 j (by lia)
    have e3 := hM _ e1
    congr 1; lia
theorem cl_max2 {a b : Int} (hh : A.handled = none) : Cl prog w A K (.builtin "max") [.int a, .int b] (.int (if b > a then b else a)) := fun c h vs _ k d1 g d t o Q E q => by
  obtain ⟨v, v', rfl, d1⟩ := denL2 d1
  · simp only [DenL, Den] at d1; obtain ⟨⟨t1, rfl⟩, ⟨t2, rfl⟩, _⟩ := d1
    refine max_two_ints hh fun h' tk up => q _ _ _ _ (.grow k up) ?_
    split <;> simp [Den]
theorem cm_nints {ns ms : List Int} (hu : A.units + 64 < cLine) : Cm2 prog w A .NotEq (.list (ns.map .int)) (.list (ms.map .int)) (!decide (ns = ms)) := fun c h v u k d1 d2 g d t o Q E q => by
  simp only [Den] at d1 d2; obtain ⟨a, vs, rfl, ha, da⟩ := d1; obtain ⟨b, us, rfl, hb, db⟩ := d2
  exact PySem.W.ke_ne_ints (den_list_iter ha k) (den_list_iter hb k) (ints_are da) (ints_are db) hu (q _ _ _ _ (.refl k) (by simp [Den]))
end
end Mine
namespace Mine
open PySem PySem.W PyProof.Rows
theorem tx_eta (x : Str) : tx x.cps.toList = x := by cases x; simp [tx]
section
variable {prog : Program} {w : World} {A : Around} {K c c' h h' : Heap} {G : Org} {env cenv : Env} {ρ ρ' caps : Vars} {R R' : Led} {g : Array GenState} {d : Drawn} {t : Nat} {o : OsState} {e e1 e2 value slice : Expr} {ps qs : List PV} {x y : Str} {px py pos sp : Pos} {l m : List Nat}

set_option maxRecDepth 20000 in
theorem hp_join : HasP prog w A (.str l) "join" "str.join" := fun c h v g d t o _ dv pl Q E q => by
  simp only [Den] at dv; obtain ⟨tk, rfl⟩ := dv; exact GM.join q
/-- in place -/
theorem in_sadd (hz : l.length + m.length < 10000000) : In2 prog w A .Add (.str l) (.str m) (.str (l ++ m)) := fun c h v u k d1 d2 g d t o Q E q => by
  simp only [Den] at d1 d2; obtain ⟨_, rfl⟩ := d1; obtain ⟨_, rfl⟩ := d2
  exact PyProof.Rows.iadd_str (fun t' tk => by rw [tx_add]; exact q _ _ _ _ (.refl k) (by simp [Den])) (by rw [tx_len, tx_len, sizeLine_eq]; lia)
theorem in_sub {a b : Int} : In2 prog w A .Sub (.int a) (.int b) (.int (a - b)) := fun c h v u k d1 d2 g d t o Q E q => by
  simp only [Den] at d1 d2; obtain ⟨_, rfl⟩ := d1; obtain ⟨_, rfl⟩ := d2
  exact PyProof.Rows.isub_int (q _ _ _ _ (.refl k) (by simp [Den]))
/-- sorted -/
theorem cl_sortI {ns ns' : List Int} (hz : ns.length < 64) (hp : ns'.Perm ns) (hs : ns'.Pairwise (· ≤ ·)) : Cl prog w A K (.builtin "sorted") [.list (ns.map .int)] (.list (ns'.map .int)) := fun c h vs _ k d1 g d t o Q E q => by
  obtain ⟨v, rfl, d1⟩ := denL1 d1
  · simp only [DenL, Den] at d1; obtain ⟨⟨a, us, rfl, ha, dl⟩, _⟩ := d1
    have hi := ints_are dl
    refine sorted_ints (den_list_iter ha k) hi (by rw [IntsAre.length hi]; exact hz) fun out ms a1 a2 a3 => ?_
    have : ms = ns' := List.Perm.eq_of_pairwise (fun a b _ _ h1 h2 => Int.le_antisymm h1 h2) a3 hs (a2.trans hp.symm)
    subst this
    obtain ⟨n, he⟩ := sortedAll_at h us out
    have up : Up h (sortedAll h us out) := fun _ _ => sortedAll_old
    have nn : h.get? (h.objs.size + 1) = none := by
      cases e : h.get? (h.objs.size + 1) with
      | none => rfl
      | some o' => exact absurd (Heap.lt_size e) (Nat.not_lt.mpr (Nat.le_succ _))
    obtain ⟨c', x', e'⟩ := Ext.alloc k up nn he
    refine q c' _ _ _ x' ?_
    simp only [Den]
    exact ⟨_, out.toList, rfl, ⟨n, by simpa [seqObj] using e'⟩, of_ints a1⟩
theorem ev_neg {a : Int} (x1 : Ev prog w A K env ρ R e (.int a)) : Ev prog w A K env ρ R (.UnaryOp .USub e pos) (.int (-a)) := fun _ _ _ u F _ _ _ _ _ _ k =>
  UnaryOp_ (x1.use u F fun _ _ _ _ y1 F1 d1 => by
    simp only [Den] at d1; obtain ⟨tk, rfl⟩ := d1
    exact PySem.P.neg_int (k _ _ _ _ y1 (by simp [Den])))
/-- whether a comprehension's value is exchanged for a name's -/
noncomputable def swq (sc scope : Scope) (t : Str) (l1 l2 : Nat) : Bool := (sc.kind == .function) && (sc.names.lookup t == some .local) && (l1 == l2) && !(scope.names.any fun (n, k) => n == t && (k == .local || k == .cell))
theorem swaps_is {sc scope : Scope} {elt : Expr} {gens : List Comprehension} {tn : Str} {line : Nat} {b : Bool} (e : env.scope = sc) (hq : swq sc scope tn py.line pos.line = b) (hs : sc.kind = .function := by rfl) : swapsWith (.ListComp elt gens scope pos) (some (.Name tn py)) line env = pure b := by
  subst hq
  have hk : env.blockKind = (if sc.kind.isAnnotationScope then .function else sc.kind) := by unfold Env.blockKind; rw [e]
  show pure (env.blockKind == .function && env.kindOf tn == some .local && py.line == pos.line && !(scope.names.any fun (n, k) => n == tn && (k == .local || k == .cell))) = _
  rw [hk, hs]
  unfold swq Env.kindOf
  rw [e, hs]
  rfl
end
end Mine
namespace Mine
open PySem PySem.W PyProof.Rows
noncomputable def stm (i : Nat) : Stmt := PySem.Challenge.pw_oy0083_01.main.body.getD i (.Pass ⟨0, 0, 0, 0⟩)

section
variable {prog : Program} {w : World} {A : Around} {E : Value → Shared → Prop} {h c : Heap} {g : Array GenState} {d : Drawn} {t : Nat} {o : OsState} {env : Env} {vs vs' : Vs} {R R' : Rs} {nm bn : List (Str × Value)} {gs : List Str}

/-- the comparison of the elements -/
structure Ord (prog : Program) (w : World) (n : Nat) (c : Heap) (El : Value → Prop) (lt : Value → Value → Bool) : Prop where
  cmp : ∀ {A : Around} {E : Value → Shared → Prop} {h : Heap} {g : Array GenState} {d : Drawn} {t : Nat} {o : OsState} {Q : Value → Shared → Prop} (x y : Value), Rm A n → Up c h → El x → El y →
    (∀ h' t', Up h h' → Q (.bool (lt x y)) ⟨h', g, d, t', o⟩) → wpAny (model prog w) A (compareOp .Lt x y) Q E ⟨h, g, d, t, o⟩
end

/-! heapq's two sifts over lists -/
section
variable (lt : Value → Value → Bool)
noncomputable def sdLoop (new : Value) (s : Nat) : Nat → List Value → Nat → List Value
  | 0, xs, pos => xs.set pos new
  | f + 1, xs, pos => if s < pos then (if lt new (xs.getD ((pos - 1) / 2) .none) then sdLoop new s f (xs.set pos (xs.getD ((pos - 1) / 2) .none)) ((pos - 1) / 2) else xs.set pos new) else xs.set pos new
noncomputable def siftdown (xs : List Value) (s pos : Nat) : List Value := sdLoop lt (xs.getD pos .none) s pos xs pos
end
theorem mem_set {α : Type} {P : α → Prop} {xs : List α} (hx : ∀ v ∈ xs, P v) {i : Nat} {v : α} (hv : P v) : ∀ u ∈ xs.set i v, P u := fun u hu => by
  rcases List.mem_or_eq_of_mem_set hu with q | q
  · exact hx u q
  · exact q ▸ hv

section
variable {prog : Program} {w : World} {A : Around} {E : Value → Shared → Prop} {h c : Heap} {g : Array GenState} {d : Drawn} {t : Nat} {o : OsState} {nm bn : List (Str × Value)}
local macro_rules | `(tactic| walk_at "mem") => `(tactic| first | with_reducible exact List.mem_cons_self | (with_reducible refine List.mem_cons_of_mem _ ?_; walk_at "mem"))
local macro_rules | `(tactic| walk_at "rep") => `(tactic| first | with_reducible exact Rep.head | (with_reducible apply Rep.tail; walk_at "rep"))
local macro_rules | `(tactic| walk_at "put") => `(tactic| first | with_reducible exact Put.head | (with_reducible apply Put.tail; walk_at "put"))
set_option pp.deepTerms false
set_option pp.deepTerms.threshold 2
set_option maxRecDepth 20000 in
theorem siftdown_spec {n : Nat} {El : Value → Prop} {lt : Value → Value → Bool} {a : Addr} {xs : List Value} {s p : Nat} {t1 t2 : Tok} {Q : Value → Shared → Prop}
    (D : IsDef c 90 (stm 12)) (G : Glb c nm bn) (O : Ord prog w n c El lt) (u : Up c h) (ca : c.get? a = none) (hl : h.PlainList a xs.toArray) (hEl : ∀ v ∈ xs, El v) (hp : p < xs.length) (hsz : xs.length ≤ 1000) (room : Rm A (n + 1))
    (k : ∀ h' t', UpBut [a] h h' → h'.PlainList a (siftdown lt xs s p).toArray → Q .none ⟨h', g, d, t', o⟩) :
    wpAny (model prog w) A (call (.ref 90) [.ref a, .int s t1, .int p t2]) Q E ⟨h, g, d, t, o⟩ := by
  have uc : Up c (hideAll h [a]) := hidden_up u (by simpa using ca)
  have hnew : xs[p]? = some (xs.getD p .none) := by rw [List.getD_eq_getElem?_getD, List.getElem?_eq_getElem hp]; rfl
  have Enew : El (xs.getD p .none) := hEl _ (List.mem_of_getElem? hnew)
  generalize hgn : xs.getD p .none = new at hnew Enew
  refine enter [(a, .list xs)] [("heap", .ref a), ("startpos", .int s t1), ("pos", .int p t2)] ["newitem", "parentpos", "parent"] (D.up u) (G.lim.keeps u) room (by simpa [RO.At] using hl) (by simp) (fun _ _ _ _ _ _ _ _ => rfl) (by kernel_rfl) ?_
  intro env h₁ t₁ esc eg eb _ rm S up
  simp only [List.map_cons, List.map_nil, List.cons_append, List.nil_append] at S
  generalize hcb : hideAll h [a] = cb at S uc
  generalize A.deeper env = B at rm ⊢
  refine wpAny_gen fun Qf hQf => ?_
  refine wpAny_execs_cons (r_asg (Subscript_ (r_ld S (by walk_at "mem") (r_ld S (by walk_at "mem") (r_item (S.lst (by walk_at "mem")) (by lia) hnew (r_st S (by walk_at "put") ?_))))))
  intro h₂ t₂ S
  refine wpAny_execs_cons (r_while (fun n h => ∃ (pos f : Nat) (ys : List Value) (tp : Tok) (u1 u2 : Option Value), n = pos ∧ St cb env [("heap", some (.ref a)), ("startpos", some (.int s t1)), ("pos", some (.int pos tp)), ("newitem", some new), ("parentpos", u1), ("parent", u2)] [(a, .list ys)] h ∧
    pos < ys.length ∧ ys.length = xs.length ∧ (∀ v ∈ ys, El v) ∧ pos ≤ f ∧ sdLoop lt new s f ys pos = siftdown lt xs s p)
    (fun h => ∃ (pos : Nat) (ys : List Value) (tp : Tok) (u1 u2 : Option Value), St cb env [("heap", some (.ref a)), ("startpos", some (.int s t1)), ("pos", some (.int pos tp)), ("newitem", some new), ("parentpos", u1), ("parent", u2)] [(a, .list ys)] h ∧ pos < ys.length ∧ ys.length = xs.length ∧ ys.set pos new = siftdown lt xs s p)
    p ⟨p, p, xs, t2, _, _, rfl, S, hp, rfl, hEl, Nat.le_refl _, by rw [siftdown, hgn]⟩ ?_ ?_)
  all_goals clear S
  rotate_left
  · rintro h₃ t₃ ⟨pos, ys, tp, u1, u2, S, hpos, hlen, hgoal⟩
    refine wpAny_execs_cons (wpAny_Assign_Subscript (r_ld S (by walk_at "mem") (r_ld S (by walk_at "mem") (r_ld S (by walk_at "mem") (r_setitem S (by walk_at "mem") (by walk_at "rep") (by lia) hpos ?_)))))
    intro h₄ S
    subst hcb
    exact wpAny_execs_nil (hQf _ _ (k _ _ S.done (hgoal ▸ S.pl (by walk_at "mem"))))
  rintro pos h₃ t₃ ⟨_, f, ys, tp, u1, u2, rfl, S, hpos, hlen, hys, hf, hgoal⟩
  refine wpAny_gen fun Qt hQt => ?_
  refine wpAny_isTrue_Compare1 (r_ld S (by walk_at "mem") (r_ld S (by walk_at "mem") (PyProof.Rows.gt_int (wpAny_truthy_bool (hQt _ _ ?_)))))
  clear hQt Qt
  by_cases hsp : s < pos
  · rw [if_pos (by simpa using hsp)]
    refine wpAny_gen fun Qb hQb => ?_
    obtain ⟨f, rfl⟩ : ∃ f', f = f' + 1 := ⟨f - 1, by lia⟩
    have hpp : ((pos : Int) - 1).fdiv (2 ^ (1 : Int).toNat) = (((pos - 1) / 2 : Nat) : Int) := by
      rw [Int.fdiv_eq_ediv_of_nonneg _ (by decide)]; simp; lia
    have hpar : ys[(pos - 1) / 2]? = some (ys.getD ((pos - 1) / 2) .none) := by
      rw [List.getD_eq_getElem?_getD, List.getElem?_eq_getElem (by lia)]; rfl
    have Epar := hys _ (List.mem_of_getElem? hpar)
    unfold sdLoop at hgoal
    rw [if_pos hsp] at hgoal
    generalize ys.getD ((pos - 1) / 2) .none = par at *
    refine wpAny_execs_cons (r_asg (wpAny_BinOp (wpAny_BinOp (r_ld S (by walk_at "mem") (wpAny_Constant_int (PyProof.Rows.sub_int (wpAny_Constant_int (rshift_int (by decide) (r_st S (by walk_at "put") ?_)))))))))
    intro h₄ t₄ S
    rw [hpp] at S
    refine wpAny_execs_cons (r_asg (Subscript_ (r_ld S (by walk_at "mem") (r_ld S (by walk_at "mem") (r_item (S.lst (by walk_at "mem")) (by lia) hpar (r_st S (by walk_at "put") ?_))))))
    intro h₅ t₅ S
    refine wpAny_execs_cons (wpAny_If (wpAny_isTrue_Compare1 (r_ld S (by walk_at "mem") (r_ld S (by walk_at "mem") (O.cmp _ _ rm (uc.trans S.kp) Enew Epar fun h₆ t₆ up₆ => wpAny_truthy_bool ?_)))))
    replace S := S.grow up₆
    cases hlt : lt new par with
    | true =>
      simp only [hlt, if_true] at hgoal ⊢
      refine wpAny_execs_cons (wpAny_Assign_Subscript (r_ld S (by walk_at "mem") (r_ld S (by walk_at "mem") (r_ld S (by walk_at "mem") (r_setitem S (by walk_at "mem") (by walk_at "rep") (by lia) hpos ?_)))))
      intro h₇ S
      refine wpAny_execs_cons (r_asg (r_ld S (by walk_at "mem") (r_st S (by walk_at "put") ?_)))
      intro h₈ t₈ S
      refine wpAny_execs_cons (SiftDown.continue_ ?_)
      refine hQb _ _ ⟨(pos - 1) / 2, h₈, t₈, by lia, ⟨(pos - 1) / 2, f, _, _, _, _, rfl, S, ?_, ?_, ?_, by lia, ?_⟩, rfl⟩
      · simp; lia
      · simpa using hlen
      · exact mem_set hys Epar
      · exact hgoal
    | false =>
      simp only [hlt, Bool.false_eq_true, if_false] at hgoal ⊢
      exact wpAny_execs_nil (wpAny_execs_cons (SiftDown.break_ (hQb _ _ ⟨h₆, t₆, ⟨pos, ys, _, _, _, S, hpos, hlen, hgoal⟩, rfl⟩)))
  · rw [if_neg (by simpa using hsp)]
    refine ⟨h₃, _, ⟨pos, ys, _, _, _, S, hpos, hlen, ?_⟩, rfl⟩
    unfold sdLoop at hgoal
    split at hgoal
    · exact hgoal
    · rwa [if_neg hsp] at hgoal
end
end Mine
namespace Mine
open PySem PySem.W PyProof.Rows
section
variable {prog : Program} {w : World} {A : Around} {K c c' h h' : Heap} {G : Org} {env cenv : Env} {ρ ρ' caps : Vars} {R R' : Led} {g : Array GenState} {d : Drawn} {t : Nat} {o : OsState} {e e1 e2 value slice : Expr} {ps qs : List PV} {x y : Str} {px py pos sp : Pos} {l m : List Nat}
/-- iter of a list -/
theorem call_iter_list {a : Addr} {xs : Array Value} {Q E : Value → Shared → Prop} (hl : h.IsList a xs)
    (k : Q (.ref h.objs.size) ⟨h.push { cls := .type "list_iterator", data := .fields #[.ref a, .int 0 0] }, g, d, t, o⟩) : wpAny (model prog w) A (call (.builtin "iter") [.ref a]) Q E ⟨h, g, d, t, o⟩ := by
  refine Calls.call_function_entry (by decide +kernel) (by decide +kernel) kdk_entry_iter (kdk_args_iter _) ?_
  unfold Builtin.«iter»
  refine wpAny_bind (m := someArgs "iter" 1 2 _) (wpAny_of_eq (a := [Value.ref a]) (by first | rfl | kernel_rfl!) ?_)
  show wpAny _ _ (pyIter (.ref a) >>= _) _ _ _
  exact wpAny_bind (wpAny_pyIter_list hl (wpAny_pure ⟨_, rfl, k⟩))
theorem special_list {it l : Addr} {i : Nat} {items} {x : Value} {s : Shared} {Q : Option Value → Shared → Prop} {E : Value → Shared → Prop} (hit : s.heap.IsListIter it l i)
    (hl : s.heap.IsList l items) (hx : items[i]? = some x)
    (hQ : ∀ h', h'.IsListIter it l (i + 1) → Heap.SameBut it s.heap h' → Q (some x) { s with heap := h' }) :
    wpAny (model prog w) A (callSpecial? (.ref it) (Str.ofString "__next__")) Q E s := by
  obtain ⟨o, ho, hc, hd⟩ := id hit
  obtain ⟨ol, hol, _, nl, hdl⟩ := hl
  refine wpAny_callSpecial?_slot (name := Str.ofString "__next__") hit.typeIs slot_listiter_next
    (wpAny_call_entry slot_listiter_next hit.typeIs entry_listiter_next ?_ (args_listiter_next _))
  show wpAny _ _ (field (.ref it) 0 >>= _) _ _ s
  refine wpAny_bind (wpAny_field ho hd (x := .ref l) rfl ?_)
  show wpAny _ _ (if (Value.ref l == Value.none) = true then _ else _) _ _ s
  rw [if_neg (show ¬ ((Value.ref l == Value.none) = true) from Bool.false_ne_true)]
  show wpAny _ _ (field (.ref it) 1 >>= _) _ _ s
  refine wpAny_bind (wpAny_field ho hd (x := .int i 0) rfl ?_)
  show wpAny _ _ (seqItems? (.ref l) >>= _) _ _ s
  refine wpAny_bind (wpAny_seqItems hol hdl ?_)
  simp only [Int.toNat_natCast, hx]
  refine wpAny_bind (wpAny_setField ho hd (by simp) (wpAny_pure ⟨x, rfl, hQ _ ?_ (Heap.SameBut.update ..)⟩))
  exact ⟨_, Heap.get?_update_self _ ho (Obj.isFreed_of_fields (Obj.data_mapFields hd _)), (Obj.cls_mapFields ..).trans hc, by
    rw [Obj.data_mapFields hd]; simp [rawInt]⟩
theorem call_next_list {it l : Addr} {i : Nat} {items} {x : Value} {Q E : Value → Shared → Prop} (hit : h.IsListIter it l i) (hl : h.IsList l items) (hx : items[i]? = some x)
    (k : ∀ h', h'.IsListIter it l (i + 1) → Heap.SameBut it h h' → Q x ⟨h', g, d, t, o⟩) : wpAny (model prog w) A (call (.builtin "next") [.ref it]) Q E ⟨h, g, d, t, o⟩ := by
  refine Calls.call_function_entry (by decide +kernel) (by decide +kernel) kdk_entry_next (kdk_args_next _) ?_
  unfold Builtin.«next»
  refine wpAny_bind (m := someArgs "next" 1 2 _) (wpAny_of_eq (a := [Value.ref it]) (by first | rfl | kernel_rfl!) ?_)
  dsimp only
  refine wpAny_bind (wpAny_specialOf (s := ⟨h, g, d, t, o⟩) (name := Str.ofString "__next__") (Heap.IsListIter.typeIs (s := ⟨h, g, d, t, o⟩) hit) slot_listiter_next.lookup ?_)
  refine wpAny_ite_split (fun hab => absurd hab (by decide)) (fun _ => ?_)
  exact wpAny_bind (special_list (s := ⟨h, g, d, t, o⟩) hit hl hx fun h' h1 h2 => wpAny_pure ⟨_, rfl, k h' h1 h2⟩)
theorem cm_is_self {a : Addr} : Cm2 prog w A .Is (.val (.ref a)) (.val (.ref a)) true := fun c h v u k d1 d2 g d t o Q E q => by
  simp only [Den] at d1 d2; subst d1 d2
  exact wpAny_is_ref_self (q _ _ _ _ (.refl k) (by simp [Den]))
/-- all but the first of a source's items -/
theorem Src.drop1 {target : Expr} {xs : List Str} {I : Addr} {fp wr : List Addr} {its : List PV} {items : List (List PV)} {Si : Nat → Heap → Prop} (S : Src prog w A K target xs I fp wr (its :: items) Si) : Src prog w A K target xs I fp wr items (fun i h => Si (i + 1) h) where
  sub := S.sub
  old := S.old
  live := fun i h => S.live (i + 1) h
  frame := fun i h h' => S.frame (i + 1) h h'
  next := fun i its' G c env ρ ρ' R h g d t o Q E hi => S.next (i + 1) its' G c env ρ ρ' R h g d t o Q E (by simpa using hi)
  done := fun G c env ρ R h g d t o Q E hs => S.done G c env ρ R h g d t o Q E (by simpa using hs)
  self := fun i => S.self (i + 1)
/-- a list's iterator as a source -/
theorem src_list {a I : Addr} {vs : List Value} (hh : A.handled = none) (hne : a ≠ I) (hp : K.PlainList a vs.toArray) (dl : DenL K vs ps) :
    Src prog w A K (.Name x px) [x] I [I, a] [I] (ps.map fun p => [p]) (fun i h => h.IsListIter I a i ∧ h.IsList a vs.toArray) := by
  refine .ofWalks (Walks.list hh I a hne vs.toArray) ?_ ?_ ?_ ?_
  · have := dl.length; simp [this]
  · intro i v hv
    have hi : i < vs.length := by have := (Array.getElem?_eq_some_iff.mp hv).1; simpa using this
    have hi2 : i < ps.length := by rw [← dl.length]; exact hi
    obtain ⟨v', hv', dv⟩ := dl.get (List.getElem?_eq_getElem hi2)
    refine ⟨ps[i], List.getElem?_eq_getElem hi2, ?_⟩
    have : vs[i]? = some v := by simpa using hv
    rw [hv'] at this; cases this; exact dv
  · intro b hb
    rcases List.mem_cons.mp hb with rfl | hb
    · exact .inl (by simp)
    · rw [List.mem_singleton.mp hb]; obtain ⟨n, e⟩ := hp; exact .inr ⟨_, e⟩
  · rintro i h ⟨⟨ob, ho, _⟩, ⟨ob', ho', _⟩⟩ b hb
    rcases List.mem_cons.mp hb with rfl | hb
    · exact ⟨ob, ho⟩
    · rw [List.mem_singleton.mp hb]; exact ⟨ob', ho'⟩
end
end Mine
namespace Mine
open PySem PySem.W PyProof.Rows
noncomputable def PV.flat : PV → Prop
  | .list _ => False
  | _ => True
theorem Den.flat {c c' : Heap} : ∀ {p : PV} {v : Value}, p.flat → Den c v p → Den c' v p
  | .val _, _, _, d => by simpa [Den] using d
  | .int _, _, _, d => by simpa [Den] using d
  | .str _, _, _, d => by simpa [Den] using d
  | .list _, _, f, _ => f.elim
theorem DenL.flat {c c' : Heap} : ∀ {ps : List PV} {vs : List Value}, (∀ p ∈ ps, p.flat) → DenL c vs ps → DenL c' vs ps
  | [], [], _, _ => by simp [DenL]
  | p :: ps, v :: vs, f, d => by
    simp only [DenL] at d ⊢
    exact ⟨Den.flat (f p (by simp)) d.1, DenL.flat (fun q hq => f q (by simp [hq])) d.2⟩
  | [], _ :: _, _, d => by simp [DenL] at d
  | _ :: _, [], _, d => by simp [DenL] at d

/-- of h: what stands in c, and as -/
noncomputable def keepAt (c h : Heap) (as : List Addr) : Heap := hideAll h ((List.range h.objs.size).filter fun b => !(as.contains b) && (c.get? b).isNone)
section
variable {c h : Heap} {as : List Addr}
theorem keepAt_up (k : Up c h) : Up c (keepAt c h as) := fun b o e => hideAll_get _ (k _ _ e) fun q => by
  have := (List.mem_filter.mp q).2
  simp [e] at this
theorem keepAt_sub : Up (keepAt c h as) h := fun _ _ e => of_hideAll _ e
theorem keepAt_at {a : Addr} {o : Obj} (ha : a ∈ as) (e : h.get? a = some o) : (keepAt c h as).get? a = some o := hideAll_get _ e fun q => by
  have := (List.mem_filter.mp q).2
  simp [ha] at this
theorem keepAt_old (k : Up c h) {b : Addr} {o : Obj} (e : (keepAt c h as).get? b = some o) : b ∈ as ∨ c.get? b = some o := by
  by_cases hb : b ∈ as
  · exact .inl hb
  · right
    have e2 := keepAt_sub _ _ e
    cases q : c.get? b with
    | some o2 => have := k _ _ q; rw [e2] at this; exact this.symm
    | none =>
      exfalso
      have : (keepAt c h as).get? b = none := hideAll_none _ (List.mem_filter.mpr ⟨List.mem_range.mpr (Heap.lt_size e2), by simp [hb, q]⟩)
      rw [e] at this; cases this
end
section
variable {prog : Program} {w : World} {A : Around} {K c c' h h' : Heap} {G : Org} {pl : Str → Pl} {env : Env} {ρ ρ' : Vars} {R R' : Led} {g : Array GenState} {d : Drawn} {t : Nat} {o : OsState}
theorem own_nil {a : Addr} (x : Own pl env ρ [] a) : Own pl env ρ R a := by
  rcases x with x | x | x
  · exact .inl x
  · exact .inr (.inl x)
  · cases x
theorem FrP.noR (F : FrP G pl c env ρ R h) {a : Addr} (x : Own pl env ρ [] a) : a ∉ R.map (·.1) := by
  rcases x with x | ⟨q, hq, e⟩ | x
  · rw [x]; exact F.n3
  · exact (F.n1 q hq a e).2
  · cases x
theorem Fr.frozen (F : Fr G c env ρ R h) : ∃ G1 : Org, G1.fn = G.fn ∧ Fr G1 (keepAt c h (R.map (·.1))) env ρ [] h ∧ ∀ a ps, (a, ps) ∈ R → Den (keepAt c h (R.map (·.1))) (.ref a) (.list ps) := by
  obtain ⟨pl, F⟩ := F
  have up := F.ex.ch
  have uc : Up c (keepAt c h (R.map (·.1))) := keepAt_up up
  refine ⟨⟨keepAt c h (R.map (·.1)), h, ownL pl env ρ [], G.fn⟩, rfl, ⟨pl, {
    ex := .refl keepAt_sub
    fn := F.fn
    ns := F.ns
    vars := fun q hq => by
      refine ⟨(F.vars q hq).1, ?_⟩
      have := (F.vars q hq).2
      revert this
      cases e : pl q.1 with
      | loc => rintro ⟨kd, m', hn', hv⟩; exact ⟨kd, m', hn', fun p e => let ⟨v, a, b⟩ := hv p e; ⟨v, a, Den.up uc _ b⟩⟩
      | own b => rintro ⟨kd, l, ov, hc, hv⟩; exact ⟨kd, l, ov, hc, fun p e => let ⟨v, a, b⟩ := hv p e; ⟨v, a, Den.up uc _ b⟩⟩
      | fro b => rintro ⟨kd, l, n, v', p', hc, e', d'⟩; exact ⟨kd, l, fun x => n (own_nil x), v', p', hc, e', Den.up uc _ d'⟩
    kn := F.kn
    rl := fun q hq => by cases hq
    n1 := fun q hq a e => ⟨(F.n1 q hq a e).1, by simp⟩
    n2 := F.n2
    n3 := by simp
    n4 := by simp
    nc := fun a x => by
      cases e : (keepAt c h (R.map (·.1))).get? a with
      | none => rfl
      | some ob =>
        rcases keepAt_old up e with q | q
        · exact absurd q (F.noR x)
        · rw [F.nc a (own_nil x)] at q; cases q
    xo := fun a x => .inl (ownL_iff.mpr x)
    nf := F.nf
    cv := F.cv }⟩, fun a ps m => ?_⟩
  obtain ⟨xs, ⟨n, hl⟩, dl⟩ := F.rl _ m
  simp only [Den]
  exact ⟨a, xs, rfl, ⟨n, keepAt_at (List.mem_map_of_mem (f := (·.1)) m) hl⟩, DenL.up uc _ dl⟩
/-- all lists of the frame stand from now on -/
theorem Fr.freezeG (F : Fr G c env ρ R h) (hG : ∀ a ∈ R.map (·.1), G.h.get? a = none) : Fr G (keepAt c h (R.map (·.1))) env ρ [] h ∧ ∀ a ps, (a, ps) ∈ R → Den (keepAt c h (R.map (·.1))) (.ref a) (.list ps) := by
  obtain ⟨pl, F⟩ := F
  have up := F.ex.ch
  have uc : Up c (keepAt c h (R.map (·.1))) := keepAt_up up
  refine ⟨⟨pl, {
    ex := ⟨F.ex.cc.trans uc, keepAt_sub, F.ex.hh, F.ex.lv, fun a ob e => by
      rcases keepAt_old up e with q | q
      · exact .inr (hG a q)
      · exact F.ex.nw a ob q⟩
    fn := F.fn
    ns := F.ns
    vars := fun q hq => by
      refine ⟨(F.vars q hq).1, ?_⟩
      have := (F.vars q hq).2
      revert this
      cases e : pl q.1 with
      | loc => rintro ⟨kd, m', hn', hv⟩; exact ⟨kd, m', hn', fun p e => let ⟨v, a, b⟩ := hv p e; ⟨v, a, Den.up uc _ b⟩⟩
      | own b => rintro ⟨kd, l, ov, hc, hv⟩; exact ⟨kd, l, ov, hc, fun p e => let ⟨v, a, b⟩ := hv p e; ⟨v, a, Den.up uc _ b⟩⟩
      | fro b => rintro ⟨kd, l, n, v', p', hc, e', d'⟩; exact ⟨kd, l, fun x => n (own_nil x), v', p', hc, e', Den.up uc _ d'⟩
    kn := F.kn
    rl := fun q hq => by cases hq
    n1 := fun q hq a e => ⟨(F.n1 q hq a e).1, by simp⟩
    n2 := F.n2
    n3 := by simp
    n4 := by simp
    nc := fun a x => by
      cases e : (keepAt c h (R.map (·.1))).get? a with
      | none => rfl
      | some ob =>
        rcases keepAt_old up e with q | q
        · exact absurd q (F.noR x)
        · rw [F.nc a (own_nil x)] at q; cases q
    xo := fun a x => F.xo a (own_nil x)
    nf := F.nf
    cv := F.cv }⟩, fun a ps m => ?_⟩
  obtain ⟨xs, ⟨n, hl⟩, dl⟩ := F.rl _ m
  simp only [Den]
  exact ⟨a, xs, rfl, ⟨n, keepAt_at (List.mem_map_of_mem (f := (·.1)) m) hl⟩, DenL.up uc _ dl⟩
/-- names that stand for own lists, told as lists -/
inductive Froz (R : Led) : Vars → Vars → Prop
  | nil : Froz R [] []
  | same {q t t'} : Froz R t t' → Froz R (q :: t) (q :: t')
  | lst {x a ps t t'} : (a, ps) ∈ R → Froz R t t' → Froz R ((x, some (.val (.ref a))) :: t) ((x, some (.list ps)) :: t')
theorem Froz.keys (U : Froz R ρ ρ') : ρ'.map (·.1) = ρ.map (·.1) := by
  induction U with
  | nil => rfl
  | same _ ih => simp only [List.map_cons, ih]
  | lst _ _ ih => simp only [List.map_cons, ih]
theorem Froz.old (U : Froz R ρ ρ') (hd : ∀ a ps, (a, ps) ∈ R → Den c (.ref a) (.list ps)) {q : Str × Option PV} (hq : q ∈ ρ') : ∃ u, (q.1, u) ∈ ρ ∧ ∀ p, q.2 = some p → ∃ p0, u = some p0 ∧ ∀ v, Den c v p0 → Den c v p := by
  induction U with
  | nil => cases hq
  | same _ ih =>
    rcases List.mem_cons.mp hq with rfl | hq
    · exact ⟨_, .head _, fun p e => ⟨p, e, fun _ d => d⟩⟩
    · obtain ⟨u, a, b⟩ := ih hq; exact ⟨u, .tail _ a, b⟩
  | lst m _ ih =>
    rcases List.mem_cons.mp hq with rfl | hq
    · refine ⟨_, .head _, fun p e => ⟨_, rfl, fun v dv => ?_⟩⟩
      simp only [Den] at dv
      subst dv
      cases e
      exact hd _ _ m
    · obtain ⟨u, a, b⟩ := ih hq; exact ⟨u, .tail _ a, b⟩
theorem Fr.retype (F : Fr G c env ρ R' h) (U : Froz R ρ ρ') (hd : ∀ a ps, (a, ps) ∈ R → Den c (.ref a) (.list ps)) (gf : G.fn = true) : Fr G c env ρ' R' h := by
  obtain ⟨pl, F⟩ := F
  exact ⟨pl, {
  ex := F.ex
  fn := F.fn
  ns := F.ns
  vars := fun q hq => by
    obtain ⟨u, hu, hp⟩ := U.old hd hq
    have := F.vars _ hu
    refine ⟨this.1, ?_⟩
    have := this.2
    revert this
    show VarAt c h env (Own pl env ρ R') q.1 u (pl q.1) → _
    cases e : pl q.1 with
    | loc => rintro ⟨k, m', hn', hv⟩; exact ⟨k, m', hn', fun p e => by obtain ⟨p0, e0, f⟩ := hp p e; obtain ⟨v, a, b⟩ := hv p0 e0; exact ⟨v, a, f v b⟩⟩
    | own b => rintro ⟨k, l, ov, hc, hv⟩; exact ⟨k, l, ov, hc, fun p e => by obtain ⟨p0, e0, f⟩ := hp p e; obtain ⟨v, a, b⟩ := hv p0 e0; exact ⟨v, a, f v b⟩⟩
    | fro b => exact absurd e (F.nf gf _ hu b)
  kn := by rw [U.keys]; exact F.kn
  rl := F.rl
  n1 := fun q hq a e => by obtain ⟨u, hu, _⟩ := U.old hd hq; exact F.n1 _ hu a e
  n2 := fun q hq r hr a e e' => by
    obtain ⟨u, hu, _⟩ := U.old hd hq
    obtain ⟨u', hu', _⟩ := U.old hd hr
    exact F.n2 (q.1, u) hu (r.1, u') hu' a e e'
  n3 := F.n3
  n4 := F.n4
  nc := fun a o => F.nc a ((own_keys U.keys a).mp o)
  xo := fun a o => F.xo a ((own_keys U.keys a).mp o)
  nf := fun g q hq a e => by obtain ⟨u, hu, _⟩ := U.old hd hq; exact F.nf g _ hu a e
  cv := F.cv }⟩
theorem thaw {as : List Addr} {c2 h2 : Heap} (k : Up c h) (nc : ∀ a ∈ as, c.get? a = none) (x : Ext [] (keepAt c h as) h c2 h2) : Ext [] c h (hideAll c2 as) h2 where
  cc := fun b ob e => hideAll_get _ (x.cc _ _ (keepAt_up k _ _ e)) fun q => by rw [nc b q] at e; cases e
  ch := fun b ob e => x.ch _ _ (of_hideAll _ e)
  hh := x.hh
  lv := x.lv
  nw := fun b ob e => by
    have hb : b ∉ as := fun q => by rw [hideAll_none _ q] at e; cases e
    rcases x.nw b ob (of_hideAll _ e) with q | q
    · rcases keepAt_old k q with z | z
      · exact absurd z hb
      · exact .inl z
    · exact .inr q
theorem Fr.Rnone (F : Fr G c env ρ R h) : ∀ a ∈ R.map (·.1), c.get? a = none := fun a ha => let ⟨_, F⟩ := F; F.nc a (.inr (.inr ha))
/-- an expression read in the frame with its lists told -/
theorem Fr.useZ {e : Expr} {p : PV} {Q E : Value → Shared → Prop} (F : Fr G c env ρ R h) (gf : G.fn = true) (Z : Froz R ρ ρ') (x : Ev prog w A K env ρ' [] e p) (u : Up K c) (fl : p.flat)
    (k : ∀ c' v h' t', Ext [] c h c' h' → Fr G c' env ρ R h' → Den c' v p → Q v ⟨h', g, d, t', o⟩) : wpAny (model prog w) A (eval e env) Q E ⟨h, g, d, t, o⟩ := by
  obtain ⟨G1, g1, F1, hd⟩ := F.frozen
  have F2 := F1.retype Z hd (g1.trans gf)
  refine x.use (u.trans (keepAt_up F.up)) F2 fun c2 v h2 t2 x2 _ dv => ?_
  have x3 := thaw F.up F.Rnone x2
  exact k _ v h2 t2 x3 (F.ext x3) (Den.flat fl dv)
theorem Fr.useZB {e : Expr} {b : Bool} {Q : Bool → Shared → Prop} {E : Value → Shared → Prop} (F : Fr G c env ρ R h) (gf : G.fn = true) (Z : Froz R ρ ρ') (x : EvB prog w A K env ρ' [] e b) (u : Up K c)
    (k : ∀ c' h' t', Ext [] c h c' h' → Fr G c' env ρ R h' → Q b ⟨h', g, d, t', o⟩) : wpAny (model prog w) A (isTrue e env (eval e env)) Q E ⟨h, g, d, t, o⟩ := by
  obtain ⟨G1, g1, F1, hd⟩ := F.frozen
  have F2 := F1.retype Z hd (g1.trans gf)
  refine x.use (u.trans (keepAt_up F.up)) F2 fun c2 h2 t2 x2 _ => ?_
  have x3 := thaw F.up F.Rnone x2
  exact k _ h2 t2 x3 (F.ext x3)
end
end Mine
namespace Mine
open PySem PySem.W PyProof.Rows
section
variable {prog : Program} {w : World} {A : Around} {K c c' h h' : Heap} {G : Org} {pl : Str → Pl} {env cenv : Env} {ρ ρ' caps : Vars} {R R' : Led} {g : Array GenState} {d : Drawn} {t : Nat} {o : OsState} {ps : List PV}
/-- a list of the heap's that nothing knows yet becomes the frame's own -/
theorem FrP.pushAt {a : Addr} {xs : List Value} (F : FrP G pl c env ρ R h) (ca : c.get? a = none) (ga : G.h.get? a = none) (na : ∀ b, Own pl env ρ R b → b ≠ a) (hl : h.PlainList a xs.toArray) (d : DenL c xs ps) : FrP G pl c env ρ ((a, ps) :: R) h where
  ex := F.ex
  fn := F.fn
  ns := F.ns
  vars := fun q hq => by
    refine ⟨(F.vars q hq).1, ?_⟩
    have := (F.vars q hq).2
    revert this
    cases e : pl q.1 with
    | loc => exact id
    | own b => exact id
    | fro b =>
      rintro ⟨k, l, nn, v', p', hc, e', d'⟩
      refine ⟨k, l, fun o => ?_, v', p', hc, e', d'⟩
      rcases o with o | o | o
      · exact nn (.inl o)
      · exact nn (.inr (.inl o))
      · rcases List.mem_cons.mp o with q | q
        · obtain ⟨ob, ho, hd⟩ := hc
          obtain ⟨n, ho2⟩ := hl
          rw [q] at ho
          have ho : h.get? a = some ob := ho
          rw [ho2] at ho; cases ho; cases hd
        · exact nn (.inr (.inr q))
  kn := F.kn
  rl := fun q hq => by
    rcases List.mem_cons.mp hq with rfl | hq
    · exact ⟨xs, hl, d⟩
    · exact F.rl q hq
  n1 := fun q hq b e => ⟨(F.n1 q hq b e).1, fun m => by
    rcases List.mem_cons.mp m with m | m
    · exact na b (.inr (.inl ⟨q, hq, e⟩)) m
    · exact (F.n1 q hq b e).2 m⟩
  n2 := F.n2
  n3 := fun m => by
    rcases List.mem_cons.mp m with m | m
    · exact na _ (.inl rfl) m
    · exact F.n3 m
  n4 := by
    rw [List.map_cons, List.nodup_cons]
    exact ⟨fun m => na a (.inr (.inr m)) rfl, F.n4⟩
  nc := fun b o => by
    rcases o with o | o | o
    · exact F.nc b (.inl o)
    · exact F.nc b (.inr (.inl o))
    · rcases List.mem_cons.mp o with q | q
      · exact q ▸ ca
      · exact F.nc b (.inr (.inr q))
  xo := fun b o => by
    rcases o with o | o | o
    · exact F.xo b (.inl o)
    · exact F.xo b (.inr (.inl o))
    · rcases List.mem_cons.mp o with q | q
      · exact .inr (q ▸ ga)
      · exact F.xo b (.inr (.inr q))
  nf := F.nf
  cv := F.cv
/-- behind a stretch that made the list a: the list becomes the frame's own -/
theorem Fr.extPush {a : Addr} (F : Fr G c env ρ R h) (x : Ext [] c h c' h') (n : h.get? a = none) (dv : Den c' (.ref a) (.list ps)) (fl : ∀ p ∈ ps, p.flat) :
    ∃ c'', Ext [] c h c'' h' ∧ (∀ b ob, b ≠ a → c'.get? b = some ob → c''.get? b = some ob) ∧ Up c'' c' ∧ Fr G c'' env ρ ((a, ps) :: R) h' := by
  have ca : c.get? a = none := by
    cases e : c.get? a with
    | none => rfl
    | some ob => have := F.up _ _ e; rw [n] at this; cases this
  have x2 : Ext [] c h (hideAll c' [a]) h' := ⟨fun b ob e => hideAll_get _ (x.cc _ _ e) fun q => (by rw [List.mem_singleton.mp q, ca] at e; cases e), fun b ob e => x.ch _ _ (of_hideAll _ e), x.hh, x.lv, fun b ob e => x.nw b ob (of_hideAll _ e)⟩
  refine ⟨hideAll c' [a], x2, fun b ob nb e => hideAll_get _ e (by simpa using nb), fun b ob e => of_hideAll _ e, ?_⟩
  obtain ⟨pl, FP⟩ := F
  simp only [Den] at dv
  obtain ⟨a', vs, e, hl, dl⟩ := dv
  cases e
  refine ⟨pl, (FP.extP x2).pushAt (hideAll_none _ (by simp)) ?_ (fun b ob e => ?_) (hl.at fun ob e => x.ch _ _ e) (DenL.flat fl dl)⟩
  · cases e : G.h.get? a with
    | none => rfl
    | some ob => obtain ⟨o', e'⟩ := FP.ex.lv a ob e; rw [n] at e'; cases e'
  · obtain ⟨ob', e'⟩ := FP.live ob; rw [e, n] at e'; cases e'
theorem Fr.gnone {a : Addr} (F : Fr G c env ρ R h) (n : h.get? a = none) : G.h.get? a = none := by
  cases e : G.h.get? a with
  | none => rfl
  | some o => obtain ⟨o', e'⟩ := F.ex.lv a o e; rw [n] at e'; cases e'
/-- an expression that makes a new list -/
noncomputable def EvF (prog : Program) (w : World) (A : Around) (K : Heap) (env : Env) (ρ : Vars) (R : Led) (e : Expr) (ps : List PV) : Prop := ∀ (G : Org) (c h : Heap), Up K c → Fr G c env ρ R h → ∀ (g : Array GenState) (d : Drawn) (t : Nat) (o : OsState) (Q E : Value → Shared → Prop),
  (∀ c' a h' t', Ext [] c h c' h' → h.get? a = none → Den c' (.ref a) (.list ps) → Q (.ref a) ⟨h', g, d, t', o⟩) → wpAny (model prog w) A (eval e env) Q E ⟨h, g, d, t, o⟩
theorem none_up {h h' : Heap} {a : Addr} (u : Up h h') (n : h'.get? a = none) : h.get? a = none := by
  cases e : h.get? a with
  | none => rfl
  | some ob => have := u _ _ e; rw [n] at this; cases this
theorem evf_slice {e1 : Expr} {sp pos : Pos} {lo hi : Option Int} {lower upper : Option Expr} (x1 : Ev prog w A K env ρ R e1 (.list ps)) (x2 : EvO prog w A K env ρ R lower lo) (x3 : EvO prog w A K env ρ R upper hi) (hz : ps.length < 1000000)
    (hs : ∀ a b, ∃ ops, subscripted (.Slice lower upper none sp) false (.ref a) (.ref b) = operate ops (getItem (.ref a) (.ref b)) := by intro _ _; exact ⟨_, by with_unfolding_all rfl⟩) :
    EvF prog w A K env ρ R (.Subscript e1 (.Slice lower upper none sp) pos) (slc ps lo hi) := fun G c h u F g d t o Q E k => by
  refine Subscript_ (x1.use u F fun c1 v1 h1 t1 y1 F1 d1 => wpAny_Slice (x2 G c1 h1 (u.trans y1.cc) F1 _ _ _ _ _ _ fun c2 v2 h2 t2 y2 F2 p2 => x3 G c2 h2 ((u.trans y1.cc).trans y2.cc) F2 _ _ _ _ _ _ fun c3 v3 h3 t3 y3 F3 p3 => evalPart_none_step ?_))
  simp only [Den] at d1; obtain ⟨a, vs, rfl, ha, da⟩ := d1
  have ha3 : c3.PlainList a vs.toArray := (ha.at fun ob => y2.cc a ob).at fun ob => y3.cc a ob
  have hl := den_list_iter ha3 F3.up
  obtain ⟨ops, hops⟩ := hs a h3.objs.size
  have lv := da.length
  have lsz : (h3.push { cls := .type "slice", data := .fields #[v2, v3, .none] }).objs.size = h3.objs.size + 1 := Heap.size_push ..
  refine tail_any (Heap.IsList.typeIs (s := ⟨h3.push { cls := .type "slice", data := .fields #[v2, v3, .none] }, g, d, t3, o⟩) (hl.push _)) slot_list_getitem.lookup (wpAny_getItem_list_slice (hl.push _) (Heap.IsSliceOf.new ..) p2 p3 .none (by simp) ?_ (by rw [sizeLine_eq]; simp; lia)) hops
  have y123 := y1.trans (y2.trans y3)
  have k0 : Up h3 (h3.push { cls := .type "slice", data := .fields #[v2, v3, .none] }) := up_push _
  obtain ⟨c', x', e'⟩ := Ext.alloc (c := c3) (h := h3.push { cls := .type "slice", data := .fields #[v2, v3, .none] }) (h' := (h3.push { cls := .type "slice", data := .fields #[v2, v3, .none] }).push { cls := .type "list", data := .seq (slicePick vs.toArray lo hi none) }) (F3.up.trans k0) (up_push _) fresh_none (Heap.get?_push_size _ rfl)
  refine k c' _ _ _ (y123.trans ((Ext.grow F3.up k0).trans x')) (none_up (y123.up.trans k0) fresh_none) ?_
  simp only [Den]
  refine ⟨_, (slicePick vs.toArray lo hi none).toList, rfl, ⟨0, by simpa using e'⟩, ?_⟩
  rw [slicePick_plain]
  have : vs.toArray.size = ps.length := by simp [lv]
  rw [this]
  show DenL c' ((vs.drop _).take _) ((ps.drop _).take _)
  exact DenL.take _ (DenL.drop _ (DenL.up ((y2.cc.trans y3.cc).trans x'.cc) _ da))
section
variable {rest : List Stmt} {Q : Flow → Shared → Prop} {E : Value → Shared → Prop} {x : Str} {px pos : Pos} {value : Expr}
/-- a name given a new list that is to be written -/
theorem s_asgN (Z : Froz R ρ ρ') (x1 : EvF prog w A K env ρ' [] value ps) (fl : ∀ p ∈ ps, p.flat) (u : Up K c) (F : Fr G c env ρ R h) (ρ2 : Addr → Vars) (U : ∀ a, PutP x (.val (.ref a)) ρ (ρ2 a))
    (k : ∀ a c' h' t', G.h.get? a = none → Up c c' → Fr G c' env (ρ2 a) ((a, ps) :: R) h' → wpAny (model prog w) A (execs rest env) Q E ⟨h', g, d, t', o⟩)
    (gf : G.fn = true := by first | rfl | assumption) (hs : swapsWith value (some (.Name x px)) pos.line env = pure false := by rfl) :
    wpAny (model prog w) A (execs (.Assign [.Name x px] value pos :: rest) env) Q E ⟨h, g, d, t, o⟩ := by
  refine wpAny_execs_cons (wpAny_Assign_Name ?_ hs)
  obtain ⟨G1, g1, F1, hd⟩ := F.frozen
  have F2 := F1.retype Z hd (g1.trans gf)
  refine x1 G1 _ h (u.trans (keepAt_up F.up)) F2 g d t o _ _ fun c2 a h2 t2 x2 na dv => ?_
  have ca : c.get? a = none := none_up F.up na
  have x3 := thaw F.up F.Rnone x2
  have nR : a ∉ R.map (·.1) := fun q => by
    obtain ⟨pl, FP⟩ := F
    obtain ⟨ob, e⟩ := FP.live (.inr (.inr q))
    rw [na] at e; cases e
  have dv3 : Den (hideAll c2 (R.map (·.1))) (.ref a) (.list ps) := by
    simp only [Den] at dv ⊢
    obtain ⟨a', vs, e, hl, dl⟩ := dv
    cases e
    exact ⟨a, vs, rfl, hl.at fun ob e => hideAll_get _ e nR, DenL.flat fl dl⟩
  obtain ⟨c4, x4, _, _, F4⟩ := F.extPush x3 na dv3 fl
  exact F4.stn (U a) (by simp [Den]) (.inl gf) fun h5 t5 F5 => k a c4 h5 t5 (F.gnone na) x4.cc F5
/-- l.append(e), l the frame's own list -/
theorem s_append {a : Addr} {ap np : Pos} {e : Expr} {plm : Sem Bool} (m : (x, some (.val (.ref a))) ∈ ρ) (mr : (a, ps) ∈ R) (F : Fr G c env ρ R h) (hz : ps.length < 1000000)
    (el : wpAny (model prog w) A (eval e env) (fun v s₂ => ∃ c' h' t' p R', s₂ = ⟨h', g, d, t', o⟩ ∧ Fr G c' env ρ R h' ∧ Den c' v p ∧ RepP a (ps ++ [p]) R R' ∧ ∀ h'' t'', Fr G c' env ρ R' h'' → wpAny (model prog w) A (execs rest env) Q E ⟨h'', g, d, t'', o⟩) E ⟨h, g, d, t, o⟩)
    (hs : swapsWith (.Call (.Attribute (.Name x np) "append" ap) [e] [] px) none pos.line env = pure false := by rfl)
    (he : eval (.Call (.Attribute (.Name x np) "append" ap) [e] [] px) env = (do let ov ← eval (.Name x np) env; standAt ap.atName; let (f, first) ← holding [ov] (getMethod ov "append" plm); callWith px f first (backTo px (starEach [e] env)) []) := by rfl)
    (hs2 : starEach [e] env = [(false, eval e env)] := by rfl) :
    wpAny (model prog w) A (execs (.Expr (.Call (.Attribute (.Name x np) "append" ap) [e] [] px) pos :: rest) env) Q E ⟨h, g, d, t, o⟩ := by
  refine wpAny_execs_cons (wpAny_Expr (wpAny_mono (Q := fun v s' => v = .none ∧ wpAny (model prog w) A (execs rest env) Q E s') ?_ (fun v s' q => by obtain ⟨rfl, q⟩ := q; exact q) fun _ _ q => q) (by unfold interactive; rw [F.fn]; rfl) hs)
  refine r_m1 (F.ld m fun v dv => ?_) he hs2
  simp only [Den] at dv
  subst dv
  obtain ⟨xs, hl, _⟩ := F.lst mr
  refine ⟨"list.append", has_append hl, wpAny_mono el (fun v s₂ q => ?_) fun _ _ q => q⟩
  obtain ⟨c', h', t', p, R', rfl, F', dv, U, k⟩ := q
  exact F'.append mr U dv hz fun h2 F2 => ⟨rfl, k h2 t' F2⟩
end
end
end Mine
namespace Mine
open PySem PySem.W PyProof.Rows
/-- all of c but lists stands in c' -/
noncomputable def UpNL (c c' : Heap) : Prop := ∀ b ob, c.get? b = some ob → (∀ xs n, ob ≠ { cls := .type "list", data := .seq xs n }) → c'.get? b = some ob
theorem Up.nl {c c' : Heap} (u : Up c c') : UpNL c c' := fun b ob e _ => u b ob e
section
variable {prog : Program} {w : World} {A : Around} {K c c' h h' : Heap} {G : Org} {pl : Str → Pl} {env cenv : Env} {ρ ρ' caps : Vars} {R R' : Led} {g : Array GenState} {d : Drawn} {t : Nat} {o : OsState} {ps : List PV}
/-- a name given a comprehension's list, which is to be written -/
theorem comp_asgN {sc scope : Scope} {xs xs0 gs : List Str} {elt iter target : Expr} {ifs : List Expr} {gens : List Comprehension} {pos py spos : Pos} {y : Str} {items : List (List PV)} {Q : Flow → Shared → Prop} {E : Value → Shared → Prop}
    (P : Heap → List PV → Prop) (Pup : ∀ c c' ys, UpNL c c' → P c ys → P c' ys) (Pfl : ∀ c ys, P c ys → ∀ p ∈ ys, p.flat)
    (u : Up K c) (F : Fr G c env ρ R h) (Z : Froz R ρ ρ') (hsc : env.scope = sc) (ok : compOk sc scope xs (caps.map (·.1)) gs = true) (hcap : ∀ q ∈ caps, q ∈ ρ' ∧ q.2.isSome = true) (hgen : ∃ gs', gens = ⟨target, iter, ifs, 0⟩ :: gs')
    (src : SrcE prog w A K env ρ' [] iter target xs0 items)
    (loop : ∀ c0, Up K c0 → ∀ cenv D c1 h2 t2 I fp wr Si (RR : Result → Shared → Prop), CEnv env cenv gs xs → Up c0 c1 → Src prog w A c1 target xs0 I fp wr items Si → Si 0 h2 →
      Fr ⟨c0, h, [], false⟩ c1 cenv (xs.map (fun x => (x, none)) ++ caps) [(D, [])] h2 → Off ⟨c0, h, [], false⟩ c1 cenv [(D, [])] wr →
      (∀ c' ρ' ys h' t', Fr ⟨c0, h, [], false⟩ c' cenv ρ' [(D, ys)] h' → P c' ys → RR (.ok .next) ⟨h', g, d, t', o⟩) →
      codeAny (model prog w) A (.compLoop (.ListComp elt gens scope pos) 0 (.ref I) (.ref D) cenv) RR ⟨h2, g, d, t2, o⟩)
    (gf : G.fn = true) (ρ2 : Addr → Vars) (U : ∀ a, PutP y (.val (.ref a)) ρ (ρ2 a))
    (k : ∀ c' D ys h' t', G.h.get? D = none → Up c c' → Fr G c' env (ρ2 D) ((D, ys) :: R) h' → P c' ys → Q .next ⟨h', g, d, t', o⟩)
    (hsw : swapsWith (.ListComp elt gens scope pos) (some (.Name y py)) spos.line env = pure true)
    (hs : ∀ x, foldedSetIterable iter env x = pure x := by intro _; rfl) :
    wpAny (model prog w) A (exec (.Assign [.Name y py] (.ListComp elt gens scope pos) spos) env) Q E ⟨h, g, d, t, o⟩ := by
  obtain ⟨gs', rfl⟩ := hgen
  rw [exec_Assign_Name_used _ _ _ _ hsw]
  refine wpAny_bind (wpAny_standAt (wpAny_bind ?_))
  show wpAny _ A (do let _ ← comprehension (.ListComp elt (⟨target, iter, ifs, 0⟩ :: gs') scope pos) scope env _ (newList []) false (eval iter env) (some (assign (.Name y py) env))) _ _ _
  obtain ⟨G1, g1, F1, hd⟩ := F.frozen
  have F2 := F1.retype Z hd (g1.trans gf)
  have u0 : Up K (keepAt c h (R.map (·.1))) := u.trans (keepAt_up F.up)
  refine wpAny_bind (wpAny_mono (comp_core (use := some (assign (.Name y py) env)) (Q := fun _ s' => Q .next s') (E := E) P (fun c c' ys q => Pup c c' ys q.nl) u0 F2 hsc ok hcap rfl src (loop _ u0) (fun c' D ys C h' t' x nD dv hP nC ncC hn => ?_) hs)
    (fun _ s' hq => wpAny_pure (wpAny_pure hq)) fun _ _ e => e)
  obtain ⟨m, hn⟩ := hn
  have x3 := thaw F.up F.Rnone x
  have nR : D ∉ R.map (·.1) := fun q => by
    obtain ⟨pl, FP⟩ := F
    obtain ⟨ob, e⟩ := FP.live (.inr (.inr q))
    rw [nD] at e; cases e
  have lists : ∀ a ∈ R.map (·.1), ∃ xs n, c'.get? a = some { cls := .type "list", data := .seq xs n } := fun a ha => by
    obtain ⟨q, hq, rfl⟩ := List.mem_map.mp ha
    have dq := hd q.1 q.2 hq
    simp only [Den] at dq
    obtain ⟨a', vs, e, ⟨n, hl⟩, _⟩ := dq
    cases e
    exact ⟨_, _, x.cc _ _ hl⟩
  obtain ⟨vsD, nDl, hDl⟩ : ∃ xs n, c'.get? D = some { cls := .type "list", data := .seq xs n } := by
    simp only [Den] at dv
    obtain ⟨a', vs, e, ⟨n, hl⟩, _⟩ := dv
    cases e
    exact ⟨_, _, hl⟩
  have dv3 : Den (hideAll c' (R.map (·.1))) (.ref D) (.list ys) := by
    simp only [Den] at dv ⊢
    obtain ⟨a', vs, e, hl, dl⟩ := dv
    cases e
    exact ⟨D, vs, rfl, hl.at fun ob e => hideAll_get _ e nR, DenL.flat (Pfl _ _ hP) dl⟩
  obtain ⟨c4, x4, k4, d4, F4⟩ := F.extPush x3 nD dv3 (Pfl _ _ hP)
  have hP4 : P c4 ys := Pup c' c4 ys (fun b ob e nl => k4 b ob (fun q => by rw [q, hDl] at e; cases e; exact nl _ _ rfl) (hideAll_get _ e fun q => by
    obtain ⟨xs, n, hl⟩ := lists b q
    rw [hl] at e; cases e; exact nl _ _ rfl)) hP
  have off : Off G c4 env ((D, ys) :: R) [C] := fun b hb => by
    rw [List.mem_singleton.mp hb]
    obtain ⟨pl, FP⟩ := F
    have nC4 : c4.get? C = none := by
      cases e : c4.get? C with
      | none => rfl
      | some ob => have := of_hideAll _ (d4 _ _ e); rw [ncC] at this; cases this
    refine ⟨nC4, ?_, fun e => ?_, fun e => ?_, fun z e => ?_⟩
    · cases e : G.h.get? C with
      | none => rfl
      | some ob => obtain ⟨o', e'⟩ := FP.ex.lv _ _ e; rw [nC] at e'; cases e'
    · obtain ⟨ob, e'⟩ := FP.live (.inl rfl); rw [← e, nC] at e'; cases e'
    · rcases List.mem_cons.mp e with e | e
      · obtain ⟨o1, es, ep, ho1, hd1, _⟩ := hn
        have e2 := x.ch _ _ hDl
        have e : C = D := e
        rw [← e, ho1] at e2; cases e2; cases hd1
      · obtain ⟨ob, e'⟩ := FP.live (a := C) (.inr (.inr e)); rw [nC] at e'; cases e'
    · obtain ⟨ob, e'⟩ := FP.cv z _ e; rw [nC] at e'; cases e'
  obtain ⟨G', gf', F5, back, kp⟩ := F4.rebase off fun b hb => by
    rw [List.mem_singleton.mp hb]; obtain ⟨ob, _, _, ho, _⟩ := hn; exact ⟨ob, ho⟩
  show wpAny _ A (assign (.Name y py) env (.ref D)) _ _ _
  refine wpAny_assign_Name (F5.stn (U D) (by simp [Den]) (.inl (gf'.trans gf)) fun h2 t2 F6 => ?_)
  obtain ⟨o1, o2⟩ := kp _ _ _ _ F6
  refine ⟨m, hn.at' fun ob e => o2 C (by simp) ob e, fun h3 sb => ?_⟩
  exact k c4 D ys h3 t2 (F.gnone nD) x4.cc ((back _ _ _ _ F6).1.away o1 fun b ob n e => by rw [sb.2 b (by simpa using n)]; exact e) hP4
end
end Mine
namespace Mine
open PySem PySem.W PyProof.Rows
theorem tx_rev (l : List Nat) (u : Tok) : Txt.sliceBy (tx l) none none (-1, u) = tx l.reverse := by
  have h := step_rev_list (tx l) u
  rw [tx_len] at h
  have e : (Txt.sliceBy (tx l) none none (-1, u)).cps.toList = l.reverse := by
    rw [h]
    refine List.ext_getElem (by simp) fun i h1 h2 => ?_
    simp at h1
    simp only [List.getElem_map, List.getElem_range, List.getElem_reverse, tx]
    rw [Array.getD_eq_getD_getElem?, List.getElem?_toArray, List.getElem?_eq_getElem (by lia)]; rfl
  rw [← e, tx_eta]
theorem slice_last1 (l : List Nat) : Txt.slice (tx l) (some (-1)) none = tx (l.drop (l.length - 1)) := by
  rw [slice_from_neg (by decide), tx_len, show max 0 ((l.length : Int) + -1) = ((l.length - 1 : Nat) : Int) by lia]
  exact slice_from l (by lia)
section
variable {prog : Program} {w : World} {A : Around} {K c c' h h' : Heap} {G : Org} {env cenv : Env} {ρ ρ' caps : Vars} {R R' : Led} {g : Array GenState} {d : Drawn} {t : Nat} {o : OsState} {e e1 e2 e3 value slice : Expr} {ps qs : List PV} {x y : Str} {px py pos sp : Pos} {l m : List Nat} {b : Nat}
theorem t_sl_rev {t1 u1 : Tok} {Q E : Value → Shared → Prop} (hz : l.length < 10000000) (k : ∀ h' t' t'', Up h h' → Q (.str (tx l.reverse) t') ⟨h', g, d, t'', o⟩)
    (hs : subscripted slice false (.str (tx l) t1) (.ref h.objs.size) = operate [.ref h.objs.size, .str (tx l) t1] (getItem (.str (tx l) t1) (.ref h.objs.size)) := by with_unfolding_all rfl)
    (ht : ∀ r, letTemporaryGo value (.str (tx l) t1) r = pure () := by intro _; with_unfolding_all rfl) :
    wpAny (model prog w) A (subscriptTail value slice (.str (tx l) t1) (.ref h.objs.size)) Q E ⟨h.push { cls := .type "slice", data := .fields #[.none, .none, .int (-1) u1] }, g, d, t, o⟩ :=
  tail_of_ItemOn ⟨"str", _, F.slot_str_getitem.lookup, typeIs_str _ _ _, wpAny_getItem_str_slice (l := none) (u := none) (st := some (-1, u1)) ⟨_, Heap.get?_push_size _ rfl, rfl, rfl⟩ rfl
    (post_val_or_str ⟨by
      show (Txt.sliceBy (tx l) none none (-1, u1)).length ≤ _
      rw [tx_rev, tx_len, List.length_reverse, sizeLine_eq]; lia, fun t' k' => by
      show Q (.str (Txt.sliceBy (tx l) none none (-1, u1)) t') _
      rw [tx_rev]
      exact k _ t' k' (up_push _)⟩)⟩ hs ht
theorem ev_srev (x1 : Ev prog w A K env ρ R e1 (.str l)) (x3 : EvO prog w A K env ρ R (some e3) (some (-1))) (hz : l.length < 10000000)
    (hs : ∀ tk b, subscripted (.Slice none none (some e3) sp) false (.str (tx l) tk) (.ref b) = operate [.ref b, .str (tx l) tk] (getItem (.str (tx l) tk) (.ref b)) := by intro _ _; with_unfolding_all rfl)
    (ht : ∀ tk r, letTemporaryGo e1 (.str (tx l) tk) r = pure () := by intro _ _; with_unfolding_all rfl) :
    Ev prog w A K env ρ R (.Subscript e1 (.Slice none none (some e3) sp) pos) (.str l.reverse) := fun G c h u F g d t o Q E k => by
  refine Subscript_ (x1.use u F fun c1 v1 h1 t1 y1 F1 d1 => wpAny_Slice (evalPart_none_step (evalPart_none_step (x3 G c1 h1 (u.trans y1.cc) F1 _ _ _ _ _ _ fun c3 v3 h3 t3 y3 F3 p3 => ?_))))
  simp only [Den] at d1; obtain ⟨tk, rfl⟩ := d1
  cases p3 with
  | int _ u3 => exact t_sl_rev hz (fun h' t' t'' up => k _ _ _ _ ((y1.trans y3).trans (Ext.grow F3.up up)) (by simp [Den])) (hs _ _) (ht _)
theorem ev_slast (x1 : Ev prog w A K env ρ R e1 (.str l)) (x3 : EvO prog w A K env ρ R (some e3) (some (-1))) (hz : l.length < 10000000)
    (hs : ∀ tk b, subscripted (.Slice (some e3) none none sp) false (.str (tx l) tk) (.ref b) = operate [.ref b, .str (tx l) tk] (getItem (.str (tx l) tk) (.ref b)) := by intro _ _; with_unfolding_all rfl)
    (ht : ∀ tk r, letTemporaryGo e1 (.str (tx l) tk) r = pure () := by intro _ _; with_unfolding_all rfl) :
    Ev prog w A K env ρ R (.Subscript e1 (.Slice (some e3) none none sp) pos) (.str (l.drop (l.length - 1))) := fun G c h u F g d t o Q E k => by
  refine Subscript_ (x1.use u F fun c1 v1 h1 t1 y1 F1 d1 => wpAny_Slice (x3 G c1 h1 (u.trans y1.cc) F1 _ _ _ _ _ _ fun c3 v3 h3 t3 y3 F3 p3 => evalPart_none_step (evalPart_none_step ?_)))
  simp only [Den] at d1; obtain ⟨tk, rfl⟩ := d1
  cases p3 with
  | int _ u3 => exact tail_of_ItemOn (SBH.sliceItem_sn (s := ⟨h3, g, d, t3, o⟩) keptUp (Up.refl h3) (fun h' t' k' up => by rw [slice_last1]; exact k _ _ _ _ ((y1.trans y3).trans (Ext.grow F3.up up)) (by simp [Den])) (by rw [tx_len, sizeLine_eq]; lia)) (hs _ _) (ht _)
theorem it_sitem {i ch : Nat} (hc : l[i]? = some ch) (hz : l.length < 10000000)
    (hs : ∀ tk u, subscripted slice false (.str (tx l) tk) (.int (i : Int) u) = operate [.str (tx l) tk, .int (i : Int) u] (getItem (.str (tx l) tk) (.int (i : Int) u)) := by intro _ _; with_unfolding_all rfl)
    (ht : ∀ tk r, letTemporaryGo value (.str (tx l) tk) r = pure () := by intro _ _; with_unfolding_all rfl) : It2 prog w A value slice (.str l) (.int i) (.str [ch]) :=
  fun c h v u k d1 d2 g d t o Q E q => by
    simp only [Den] at d1 d2; obtain ⟨_, rfl⟩ := d1; obtain ⟨_, rfl⟩ := d2
    exact t_sitem hc hz (fun _ _ => q _ _ _ _ (.refl k) (by simp [Den])) (hs _ _) (ht _)
theorem cm_in {ns : List Int} {k : Int} : Cm2 prog w A .In (.int k) (.list (ns.map .int)) (ns.any (· == k)) := fun c h v u up d1 d2 g d t o Q E q => by
  simp only [Den] at d1 d2; obtain ⟨_, rfl⟩ := d1; obtain ⟨a, vs, rfl, ha, da⟩ := d2
  exact in_list_ints (den_list_iter ha up) (ints_are da) (q _ _ _ _ (.refl up) (by simp [Den]))
theorem cm_beq {a b : Bool} : Cm2 prog w A .Eq (.val (.bool a)) (.val (.bool b)) (a == b) := fun c h v u up d1 d2 g d t o Q E q => by
  simp only [Den] at d1 d2; subst d1 d2
  exact eq_bool (q _ _ _ _ (.refl up) (by simp [Den]))
theorem join_sum : ∀ ls : List (List Nat), ((ls.map tx).map (·.length)).sum = ls.flatten.length
  | [] => rfl
  | l :: ls => by simp only [List.map_cons, List.sum_cons, List.flatten_cons, List.length_append, tx_len, join_sum ls]
theorem join_nil_tx : ∀ ls : List (List Nat), Str.join (tx []) (ls.map tx) = tx ls.flatten
  | [] => rfl
  | [l] => by show tx l = _; simp
  | l :: m :: ls => by
    show tx l ++ tx [] ++ Str.join (tx []) (tx m :: ls.map tx) = _
    have := join_nil_tx (m :: ls)
    rw [List.map_cons] at this
    rw [this, tx_add, tx_add]; simp
theorem cl_join {ls : List (List Nat)} (hz : ls.flatten.length < 1000000) : Cl prog w A K (.builtin "str.join") [.str [], .list (ls.map .str)] (.str ls.flatten) := fun c h vs _ k d1 g d t o Q E q => by
  obtain ⟨v, v', rfl, d1⟩ := denL2 d1
  · simp only [DenL, Den] at d1; obtain ⟨⟨t1, rfl⟩, ⟨a, us, rfl, ha, dl⟩, _⟩ := d1
    refine join_list (den_list_iter ha k) (strs_are dl) (by rw [join_sum, tx_len, List.length_nil, Nat.mul_zero]; lia) fun t' k' => ?_
    rw [show Txt.join (tx []) (ls.map tx) = Str.join (tx []) (ls.map tx) from StrLaws.glued_eq_join _ _, join_nil_tx]
    exact q _ _ _ _ (.refl k) (by simp [Den])
theorem hp_index : HasP prog w A (.list ps) "index" "list.index" := fun c h v g d t o up dv pl Q E q => by
  simp only [Den] at dv; obtain ⟨a, vs, rfl, ha, _⟩ := dv
  have hl := den_list_iter ha up
  exact getMethod_builtin hl.typeIs PySem.F.plainAttrs_list PySem.F.slot_list_index PySem.F.type_list_index (fun b e => by cases e; exact ⟨_, up _ _ ha.choose_spec, rfl⟩) q
theorem isStr_at {k : Str} : ∀ {vs : List Value} {ys : List Str}, StrsAre vs ys → ∀ i (h1 : i < vs.length) (h2 : i < ys.length), isStrOf k vs[i] = (ys[i] == k)
  | _, _, .nil, i, h1, _ => by simp at h1
  | _, _, .cons n u h, 0, _, _ => rfl
  | _, _, .cons n u h, i + 1, h1, h2 => isStr_at h i (by simpa using h1) (by simpa using h2)
theorem cl_index {ls : List (List Nat)} (hm : m ∈ ls) (hz : ls.length < 1000000) : Cl prog w A K (.builtin "list.index") [.list (ls.map .str), .str m] (.int (ls.idxOf m : Nat)) := fun c h vs _ k d1 g d t o Q E q => by
  obtain ⟨v, v', rfl, d1⟩ := denL2 d1
  · simp only [DenL, Den] at d1; obtain ⟨⟨a, us, rfl, ha, dl⟩, ⟨t1, rfl⟩, _⟩ := d1
    have hi := strs_are dl
    obtain ⟨n, ho⟩ := ha
    have ho := k _ _ ho
    have lu := dl.length
    rw [List.length_map] at lu
    have hj : ls.idxOf m < ls.length := List.idxOf_lt_length_iff.mpr hm
    refine call_meets PySem.F.slot_list_index ⟨_, ho, rfl⟩ PySem.F.entry_list_index (PySem.F.args_list_index_2 _ _)
      (MeetsSeq.list_index a us.toArray n (.str (tx m) t1) (isStrOf (tx m)) (fun y hy => eq_isStrOf (tx m) t1 hi y (by simpa using hy)) (ls.idxOf m) (by simpa [lu] using hj) (by lia) ?_ ?_) ⟨ho, q _ _ _ _ (.refl k) (by simp [Den])⟩
    · show isStrOf (tx m) us[ls.idxOf m] = true
      rw [isStr_at hi _ (by lia) (by simpa using hj), List.getElem_map, tx_inj]
      simp
    · intro j hjs hlt
      show isStrOf (tx m) us[j] = false
      rw [isStr_at hi j (by simpa using hjs) (by simp; lia), List.getElem_map, tx_inj]
      have := List.not_of_lt_findIdx (xs := ls) (p := (· == m)) (i := j) (by simpa [List.idxOf] using hlt)
      simpa using this
end
end Mine
namespace Mine
open PySem PySem.W PyProof.Rows
noncomputable def parseL : List Nat → List Nat
  | [] => []
  | [c] => if c = 34 then [] else [c]
  | c :: c2 :: r => if c = 34 then (if c2 = 34 then 34 :: parseL r else []) else c :: parseL (c2 :: r)
theorem parseL_ne {c : Nat} {r : List Nat} (h : c ≠ 34) : parseL (c :: r) = c :: parseL r := by
  cases r with
  | nil => simp [parseL, h]
  | cons c2 r => simp [parseL, h]
theorem parseL_le : ∀ l, (parseL l).length ≤ l.length
  | [] => Nat.le_refl _
  | [c] => by simp only [parseL]; split <;> simp
  | c :: c2 :: r => by
    simp only [parseL]
    have h1 := parseL_le r
    have h2 := parseL_le (c2 :: r)
    split
    · split
      · exact Nat.succ_le_succ (Nat.le_succ_of_le h1)
      · exact Nat.zero_le _
    · exact Nat.succ_le_succ h2
theorem getD_at {m : List Nat} {j : Nat} (h : j < m.length) : m.drop j = m.getD j 0 :: m.drop (j + 1) ∧ m[j]? = some (m.getD j 0) := by
  rw [List.drop_eq_getElem_cons h, List.getD_eq_getElem?_getD, List.getElem?_eq_getElem h]; exact ⟨rfl, rfl⟩
/-- one turn of the reading -/
theorem parseL_at {m : List Nat} {j : Nat} (h : j < m.length) : parseL (m.drop j) = if m.getD j 0 = 34 then (if j + 1 < m.length ∧ m.getD (j + 1) 0 = 34 then 34 :: parseL (m.drop (j + 2)) else []) else m.getD j 0 :: parseL (m.drop (j + 1)) := by
  rw [(getD_at h).1]
  by_cases hq : m.getD j 0 = 34
  · rw [if_pos hq, hq]
    by_cases h2 : j + 1 < m.length
    · rw [(getD_at h2).1]
      by_cases hq2 : m.getD (j + 1) 0 = 34
      · rw [if_pos ⟨h2, hq2⟩, hq2]; simp [parseL]
      · rw [if_neg fun q => hq2 q.2]; simp only [parseL, if_true, if_neg hq2]
    · rw [if_neg fun q => h2 q.1, List.drop_eq_nil_of_le (Nat.not_lt.mp h2)]; simp [parseL]
  · rw [if_neg hq, parseL_ne hq]
section
variable {prog : Program} {w : World} {A : Around} {K c c' h h' : Heap} {env : Env} {ρ : Vars} {R : Led} {g : Array GenState} {d : Drawn} {t : Nat} {o : OsState} {l m : List Nat} {nm bn : List (Str × Value)} {e1 : Expr} {pos sp : Pos}
local macro_rules | `(tactic| walk_at "mem") => `(tactic| first | with_reducible exact List.mem_cons_self | (with_reducible refine List.mem_cons_of_mem _ ?_; walk_at "mem"))
local macro_rules | `(tactic| walk_at "put") => `(tactic| first | with_reducible exact PutP.head | (with_reducible apply PutP.tail; walk_at "put"))
local macro_rules | `(tactic| walk_at "args") => `(tactic| (refine args1 fun _ => ?_; intros; rfl))
theorem cm_ge {x y : Int} : Cm2 prog w A .GtE (.int x) (.int y) (decide (y ≤ x)) := fun c h v u k d1 d2 g d t o Q E q => by
  simp only [Den] at d1 d2; obtain ⟨_, rfl⟩ := d1; obtain ⟨_, rfl⟩ := d2
  exact PyProof.Rows.ge_int (q _ _ _ _ (.refl k) (by simp [Den]))
theorem ev_smid {i n : Nat} {lower upper : Expr} (x1 : Ev prog w A K env ρ R e1 (.str l)) (x2 : EvO prog w A K env ρ R (some lower) (some (i : Int))) (x3 : EvO prog w A K env ρ R (some upper) (some (n : Int))) (hi : i ≤ n) (hn : n ≤ l.length) (hz : l.length < 10000000)
    (hs : ∀ tk b, subscripted (.Slice (some lower) (some upper) none sp) false (.str (tx l) tk) (.ref b) = operate [.ref b, .str (tx l) tk] (getItem (.str (tx l) tk) (.ref b)) := by intro _ _; with_unfolding_all rfl)
    (ht : ∀ tk r, letTemporaryGo e1 (.str (tx l) tk) r = pure () := by intro _ _; with_unfolding_all rfl) :
    Ev prog w A K env ρ R (.Subscript e1 (.Slice (some lower) (some upper) none sp) pos) (.str ((l.drop i).take (n - i))) := fun G c h u F g d t o Q E k => by
  refine Subscript_ (x1.use u F fun c1 v1 h1 t1 y1 F1 d1 => wpAny_Slice (x2 G c1 h1 (u.trans y1.cc) F1 _ _ _ _ _ _ fun c2 v2 h2 t2 y2 F2 p2 => x3 G c2 h2 ((u.trans y1.cc).trans y2.cc) F2 _ _ _ _ _ _ fun c3 v3 h3 t3 y3 F3 p3 => evalPart_none_step ?_))
  simp only [Den] at d1; obtain ⟨tk, rfl⟩ := d1
  cases p2 with
  | int _ u2 => cases p3 with
    | int _ u3 => exact t_sl_mid hz hi hn (fun h' t' t'' up => k _ _ _ _ ((y1.trans (y2.trans y3)).trans (Ext.grow F3.up up)) (by simp [Den])) (hs _ _) (ht _)
theorem Ev.castP {e : Expr} {p q : Int} (hh : p = q) (x : Ev prog w A K env ρ R e (.int p)) : Ev prog w A K env ρ R e (.int q) := hh ▸ x
/-- the names of parse257 -/
abbrev pV (m acc : List Nat) (j : Nat) (uc : Option PV) : Vars := [("resp", some (.str (50 :: 53 :: 55 :: 32 :: 34 :: m))), ("dirname", some (.str acc)), ("i", some (.int ((5 + j : Nat) : Int))), ("n", some (.int ((m.length + 5 : Nat) : Int))), ("c", uc)]
set_option pp.deepTerms false
set_option maxRecDepth 20000 in
set_option maxHeartbeats 1000000 in
theorem parse_cl (D : IsDef K 62 (stm 7)) (GG : Glb K nm bn) (hb : (("len" : Str), Value.builtin "len") ∈ bn) (hz : m.length < 1000000) (room : Rm A 1) : Cl prog w A K (.ref 62) [.str (50 :: 53 :: 55 :: 32 :: 34 :: m)] (.str (parseL m)) := by
  refine cl_of ["resp"] ["dirname", "i", "n", "c"] D GG.lim room (by walk_at "args") rfl (by kernel_rfl) ?_
  intro env G c h g d t o Q gf e1 e2 e3 rm u F k
  simp only [List.map_cons, List.map_nil, List.zip_cons_cons, List.zip_nil_right, List.cons_append, List.nil_append] at F
  have kk : GK env ["len"] := .of e2 e3 (by rw [e1]; kernel_rfl)
  have lz : (50 :: 53 :: 55 :: 32 :: 34 :: m).length = m.length + 5 := rfl
  have lz' : (50 :: 53 :: 55 :: 32 :: 34 :: m).length < 10000000 := by lia
  refine s_ifF (evb_cmp (ev_sto (n := 3) (ev_name (by walk_at "mem")) (evo_some ev_int) lz') (ev_str (l := [50, 53, 55]) (by kernel_rfl)) cm_sne) u F fun c1 h1 t1 u1 F1 => ?_
  refine s_ifF (evb_cmp (ev_smid (i := 3) (n := 5) (ev_name (by walk_at "mem")) (evo_some ev_int) (evo_some ev_int) (by decide) (by rw [lz]; exact Nat.le_add_left _ _) lz') (ev_str (l := [32, 34]) (by kernel_rfl)) cm_sne) (u.trans u1) F1 fun c2 h2 t2 u2 F2 => ?_
  refine s_asg (ev_str (l := []) (by kernel_rfl)) (.refl c2) F2 (by walk_at "put") fun c3 h3 t3 u3 F3 => ?_
  refine s_asg (p := .int ((5 + 0 : Nat) : Int)) ev_int (.refl c3) F3 (by walk_at "put") fun c4 h4 t4 u4 F4 => ?_
  have u4' := (((u.trans u1).trans u2).trans u3).trans u4
  refine s_asg (p := .int ((m.length + 5 : Nat) : Int)) (ev_callB (ev_bi GG kk (by walk_at "mem") hb) (evl_cons (ev_name (by walk_at "mem")) evl_nil) (cl_slen lz')) u4' F4 (by walk_at "put") fun c5 h5 t5 u5 F5 => ?_
  refine s_while (c := c5) (K := c5) (fun n c' h' => ∃ (j : Nat) (acc : List Nat) (uc : Option PV), Fr G c' env (pV m acc j uc) [] h' ∧ n = m.length - j ∧ j ≤ m.length ∧ acc ++ parseL (m.drop j) = parseL m)
    (fun c' h' => ∃ (j : Nat) (uc : Option PV), Fr G c' env (pV m (parseL m) j uc) [] h') m.length ⟨0, [], none, F5, rfl, Nat.zero_le _, rfl⟩ (.refl c5) ?_ ?_
  · rintro n c6 h6 t6 u6 ⟨j, acc, uc, F6, rfl, hj, hacc⟩
    refine wpAny_gen fun Qt hQt => ?_
    have hal : acc.length ≤ m.length := by have h1 := congrArg List.length hacc; have := parseL_le m; rw [List.length_append] at h1; lia
    refine w_test (evb_cmp (ev_name (by walk_at "mem")) (ev_name (by walk_at "mem")) cm_lt) (.refl c6) F6 fun c7 h7 t7 u7 F7 => hQt _ _ ?_
    clear hQt Qt
    by_cases hlt : j < m.length
    · rw [if_pos (by simp; lia)]
      refine wpAny_gen fun Qb hQb => ?_
      have hat := parseL_at hlt
      rw [hat] at hacc
      have hcj : (50 :: 53 :: 55 :: 32 :: 34 :: m)[5 + j]? = some (m.getD j 0) := by rw [Nat.add_comm]; exact (getD_at hlt).2
      generalize hch : m.getD j 0 = ch at *
      refine s_asg (ev_sub (ev_name (by walk_at "mem")) (ev_name (by walk_at "mem")) (it_sitem hcj lz')) (.refl c7) F7 (by walk_at "put") fun c8 h8 t8 u8 F8 => ?_
      refine s_asg (p := .int ((5 + (j + 1) : Nat) : Int)) (Ev.castP (p := ((5 + j : Nat) : Int) + 1) (by lia) (ev_bin (ev_name (by walk_at "mem")) ev_int op_add)) (.refl c8) F8 (by walk_at "put") fun c9 h9 t9 u9 F9 => ?_
      have U9 := (u7.trans u8).trans u9
      refine s_if (b := decide ([ch] = [34])) (evb_cmp (ev_name (by walk_at "mem")) (ev_str (l := [34]) (by kernel_rfl)) cm_seq) (.refl c9) F9 fun c10 h10 t10 u10 F10 => ?_
      have U10 := U9.trans u10
      by_cases hq : ch = 34
      · rw [if_pos (by simp [hq])]
        refine wpAny_gen fun Qi hQi => ?_
        rw [if_pos hq] at hacc
        refine s_if (b := decide (((m.length + 5 : Nat) : Int) ≤ ((5 + (j + 1) : Nat) : Int)) || !decide ([m.getD (j + 1) 0] = [34])) (evb_or (evb_cmp (ev_name (by walk_at "mem")) (ev_name (by walk_at "mem")) cm_ge) fun hb => evb_or1 (evb_cmp (ev_sub (ev_name (by walk_at "mem")) (ev_name (by walk_at "mem")) (it_sitem (i := 5 + (j + 1)) ?_ lz')) (ev_str (l := [34]) (by kernel_rfl)) cm_sne)) (.refl c10) F10 fun c11 h11 t11 u11 F11 => ?_
        · rw [Nat.add_comm]; exact (getD_at (by simp at hb; lia)).2
        have U11 := U10.trans u11
        by_cases h2 : j + 1 < m.length ∧ m.getD (j + 1) 0 = 34
        · rw [if_neg (by rw [h2.2]; simp; lia)]
          rw [if_pos h2] at hacc
          refine wpAny_execs_nil ?_
          refine s_asg (p := .int ((5 + (j + 2) : Nat) : Int)) (Ev.castP (p := ((5 + (j + 1) : Nat) : Int) + 1) (by lia) (ev_bin (ev_name (by walk_at "mem")) ev_int op_add)) (.refl c11) F11 (by walk_at "put") fun c12 h12 t12 u12 F12 => s_nil (hQi _ _ ?_)
          refine s_asg (ev_bin (ev_name (by walk_at "mem")) (ev_name (by walk_at "mem")) (op_sadd (by simp; lia))) (.refl c12) F12 (by walk_at "put") fun c13 h13 t13 u13 F13 => s_nil (hQb _ _ ?_)
          refine ⟨m.length - (j + 2), c13, h13, t13, by lia, (U11.trans u12).trans u13, ⟨j + 2, acc ++ [ch], _, F13, rfl, by lia, ?_⟩, rfl⟩
          rw [← hacc, hq]; simp
        · rw [if_pos (by
            have : ¬ j + 1 < m.length ∨ m.getD (j + 1) 0 ≠ 34 := Classical.not_and_iff_not_or_not.mp h2
            rcases this with q | q
            · simp; left; lia
            · simp only [Bool.or_eq_true, decide_eq_true_eq, Bool.not_eq_true', decide_eq_false_iff_not]; right; simpa using q)]
          rw [if_neg h2, List.append_nil] at hacc
          subst hacc
          exact wpAny_execs_cons (wpAny_Break (hQi _ _ (hQb _ _ ⟨c11, h11, t11, U11, ⟨_, _, F11⟩, rfl⟩)))
      · rw [if_neg (by simp [hq])]
        rw [if_neg hq] at hacc
        refine wpAny_execs_nil ?_
        refine s_asg (ev_bin (ev_name (by walk_at "mem")) (ev_name (by walk_at "mem")) (op_sadd (by simp; lia))) (.refl c10) F10 (by walk_at "put") fun c13 h13 t13 u13 F13 => s_nil (hQb _ _ ?_)
        refine ⟨m.length - (j + 1), c13, h13, t13, by lia, U10.trans u13, ⟨j + 1, acc ++ [ch], _, F13, rfl, by lia, ?_⟩, rfl⟩
        rw [← hacc]; simp
    · rw [if_neg (by simp; lia)]
      have hd : m.drop j = [] := List.drop_eq_nil_of_le (Nat.not_lt.mp hlt)
      rw [hd] at hacc
      have hacc : acc = parseL m := by rw [← hacc]; simp [parseL]
      subst hacc
      exact ⟨c7, h7, t7, u7, ⟨_, _, F7⟩, rfl⟩
  · rintro c6 h6 t6 u6 ⟨j, uc, F6⟩
    exact s_ret (ev_name (by walk_at "mem")) (.refl c6) F6 fun c' v h' t' x F' dv => k _ _ _ _ _ _ F' dv
end
end Mine
namespace Mine
open PySem PySem.W PyProof.Rows
section
variable (lt : Value → Value → Bool)
noncomputable def child (n : Nat) (xs : List Value) (pos : Nat) : Nat :=
  if 2 * pos + 2 < n ∧ lt (xs.getD (2 * pos + 1) .none) (xs.getD (2 * pos + 2) .none) = false then 2 * pos + 2 else 2 * pos + 1
noncomputable def suLoop (n : Nat) : Nat → List Value → Nat → List Value × Nat
  | 0, xs, pos => (xs, pos)
  | f + 1, xs, pos => if 2 * pos + 1 < n then suLoop n f (xs.set pos (xs.getD (child lt n xs pos) .none)) (child lt n xs pos) else (xs, pos)
noncomputable def siftup (xs : List Value) (pos : Nat) : List Value :=
  siftdown lt ((suLoop lt xs.length xs.length xs pos).1.set (suLoop lt xs.length xs.length xs pos).2 (xs.getD pos .none)) pos (suLoop lt xs.length xs.length xs pos).2
end
theorem suLoop_stop {lt : Value → Value → Bool} {n f pos : Nat} {xs : List Value} (h : ¬ 2 * pos + 1 < n) : suLoop lt n f xs pos = (xs, pos) := by
  cases f with
  | zero => rfl
  | succ f => simp only [suLoop, if_neg h]
theorem suLoop_go {lt : Value → Value → Bool} {n f pos : Nat} {xs : List Value} (h : 2 * pos + 1 < n) : suLoop lt n (f + 1) xs pos = suLoop lt n f (xs.set pos (xs.getD (child lt n xs pos) .none)) (child lt n xs pos) := by
  simp only [suLoop, if_pos h]
theorem getD_some {xs : List Value} {i : Nat} (h : i < xs.length) : xs[i]? = some (xs.getD i .none) := by
  rw [List.getD_eq_getElem?_getD, List.getElem?_eq_getElem h]; rfl
section
variable {prog : Program} {w : World} {A : Around} {E : Value → Shared → Prop} {h c : Heap} {g : Array GenState} {d : Drawn} {t : Nat} {o : OsState} {nm bn : List (Str × Value)}
local macro_rules | `(tactic| walk_at "mem") => `(tactic| first | with_reducible exact List.mem_cons_self | (with_reducible refine List.mem_cons_of_mem _ ?_; walk_at "mem"))
local macro_rules | `(tactic| walk_at "rep") => `(tactic| first | with_reducible exact Rep.head | (with_reducible apply Rep.tail; walk_at "rep"))
local macro_rules | `(tactic| walk_at "put") => `(tactic| first | with_reducible exact Put.head | (with_reducible apply Put.tail; walk_at "put"))
set_option pp.deepTerms false
set_option pp.deepTerms.threshold 2
set_option maxRecDepth 20000 in
theorem siftup_spec {n : Nat} {El : Value → Prop} {lt : Value → Value → Bool} {a : Addr} {xs : List Value} {p : Nat} {t2 : Tok} {Q : Value → Shared → Prop}
    (D : IsDef c 97 (stm 13)) (D2 : IsDef c 90 (stm 12)) (G : Glb c nm bn) (hn : (("_siftdown" : Str), Value.ref 90) ∈ nm) (hb : (("len" : Str), Value.builtin "len") ∈ bn) (O : Ord prog w n c El lt) (u : Up c h) (ca : c.get? a = none)
    (hl : h.PlainList a xs.toArray) (hEl : ∀ v ∈ xs, El v) (hp : p < xs.length) (hsz : xs.length ≤ 1000) (room : Rm A (n + 2))
    (k : ∀ h' t', UpBut [a] h h' → h'.PlainList a (siftup lt xs p).toArray → Q .none ⟨h', g, d, t', o⟩) :
    wpAny (model prog w) A (call (.ref 97) [.ref a, .int p t2]) Q E ⟨h, g, d, t, o⟩ := by
  have uc : Up c (hideAll h [a]) := hidden_up u (by simpa using ca)
  have hnew := getD_some hp
  have Enew : El (xs.getD p .none) := hEl _ (List.mem_of_getElem? hnew)
  generalize hgn : xs.getD p .none = new at hnew Enew
  refine enter [(a, .list xs)] [("heap", .ref a), ("pos", .int p t2)] ["endpos", "startpos", "newitem", "childpos", "rightpos"] (D.up u) (G.lim.keeps u) room (by simpa [RO.At] using hl) (by simp) (fun _ _ _ _ _ _ _ _ => rfl) (by kernel_rfl) ?_
  intro env h₁ t₁ esc eg eb _ rm S up
  simp only [List.map_cons, List.map_nil, List.cons_append, List.nil_append] at S
  have K : GK env ["len", "_siftdown"] := .of eg eb (by rw [esc]; kernel_rfl)
  generalize hcb : hideAll h [a] = cb at S uc
  have G' := G.up uc
  generalize A.deeper env = B at rm ⊢
  refine wpAny_gen fun Qf hQf => ?_
  refine wpAny_execs_cons (r_asg (r_cb1 S G' K (by walk_at "mem") hb (r_ld S (by walk_at "mem") (r_len (S.lst (by walk_at "mem")) (by lia) fun _ _ => r_st S (by walk_at "put") ?_))))
  intro h₂ t₂ S
  refine wpAny_execs_cons (r_asg (r_ld S (by walk_at "mem") (r_st S (by walk_at "put") ?_)))
  intro h₃ t₃ S
  refine wpAny_execs_cons (r_asg (Subscript_ (r_ld S (by walk_at "mem") (r_ld S (by walk_at "mem") (r_item (S.lst (by walk_at "mem")) (by lia) hnew (r_st S (by walk_at "put") ?_))))))
  intro h₄ t₄ S
  refine wpAny_execs_cons (r_asg (wpAny_BinOp (wpAny_BinOp (wpAny_Constant_int (r_ld S (by walk_at "mem") (PyProof.Rows.mul_int (wpAny_Constant_int (PyProof.Rows.add_int (r_st S (by walk_at "put") ?_))) (IntMulOk.of_left (by decide +kernel))))))))
  intro h₅ t₅ S
  refine wpAny_execs_cons (r_while (fun n h => ∃ (pos f : Nat) (ys : List Value) (tp te tc : Tok) (u1 : Option Value), n = xs.length - pos ∧ St cb env [("heap", some (.ref a)), ("pos", some (.int pos tp)), ("endpos", some (.int (xs.length : Nat) te)), ("startpos", some (.int p t2)), ("newitem", some new), ("childpos", some (.int (2 * pos + 1) tc)), ("rightpos", u1)] [(a, .list ys)] h ∧
      pos < ys.length ∧ ys.length = xs.length ∧ (∀ v ∈ ys, El v) ∧ xs.length ≤ pos + f ∧ suLoop lt xs.length f ys pos = suLoop lt xs.length xs.length xs p)
    (fun h => ∃ (pos : Nat) (ys : List Value) (tp : Tok) (u1 u2 u3 : Option Value), St cb env [("heap", some (.ref a)), ("pos", some (.int pos tp)), ("endpos", u1), ("startpos", some (.int p t2)), ("newitem", some new), ("childpos", u2), ("rightpos", u3)] [(a, .list ys)] h ∧ pos < ys.length ∧ ys.length = xs.length ∧ (∀ v ∈ ys, El v) ∧ (ys, pos) = suLoop lt xs.length xs.length xs p)
    (xs.length - p) ⟨p, xs.length, xs, _, _, _, _, rfl, S, hp, rfl, hEl, by lia, rfl⟩ ?_ ?_)
  all_goals clear S
  rotate_left
  · rintro h₃ t₃ ⟨pos, ys, tp, u1, u2, u3, S, hpos, hlen, hys, hgoal⟩
    refine wpAny_execs_cons (wpAny_Assign_Subscript (r_ld S (by walk_at "mem") (r_ld S (by walk_at "mem") (r_ld S (by walk_at "mem") (r_setitem S (by walk_at "mem") (by walk_at "rep") (by lia) hpos ?_)))))
    intro h₄ S
    refine wpAny_execs_cons (r_expr S (r_cf3 S G' K (D2.up uc) (by walk_at "mem") hn (r_ld S (by walk_at "mem") (r_ld S (by walk_at "mem") (r_ld S (by walk_at "mem") ⟨S.kp, ?_⟩)))))
    refine siftdown_spec D2 G O (uc.trans S.kp) ca (S.pl (by walk_at "mem")) (mem_set hys Enew) (by simpa using hpos) (by simp; lia) rm fun h' t' ub pl => ⟨rfl, ?_⟩
    replace S := S.updB (r' := .list _) (R' := [(a, .list _)]) .head ub pl
    subst hcb
    refine wpAny_execs_nil (hQf _ _ (k _ _ S.done ?_))
    have e : siftup lt xs p = siftdown lt (ys.set pos new) p pos := by rw [siftup, ← hgoal, hgn]
    rw [e]; exact pl
  rintro m h₆ t₆ ⟨pos, f, ys, tp, te, tc, u1, rfl, S, hpos, hlen, hys, hf, hgoal⟩
  refine wpAny_gen fun Qt hQt => ?_
  refine wpAny_isTrue_Compare1 (r_ld S (by walk_at "mem") (r_ld S (by walk_at "mem") (PyProof.Rows.lt_int (wpAny_truthy_bool (hQt _ _ ?_)))))
  clear hQt Qt
  by_cases hch : 2 * pos + 1 < xs.length
  · rw [if_pos (by simp; lia)]
    refine wpAny_gen fun Qb hQb => ?_
    obtain ⟨f, rfl⟩ : ∃ f', f = f' + 1 := ⟨f - 1, by lia⟩
    rw [suLoop_go hch] at hgoal
    have hc1 := getD_some (xs := ys) (i := 2 * pos + 1) (by lia)
    have Ec1 := hys _ (List.mem_of_getElem? hc1)
    refine wpAny_execs_cons (r_asg (wpAny_BinOp (r_ld S (by walk_at "mem") (wpAny_Constant_int (PyProof.Rows.add_int (r_st S (by walk_at "put") ?_))))))
    intro h₇ t₇ S
    refine wpAny_execs_cons (r_ifJ (fun h => ∃ (tc' : Tok) (u2 : Option Value), St cb env [("heap", some (.ref a)), ("pos", some (.int pos tp)), ("endpos", some (.int (xs.length : Nat) te)), ("startpos", some (.int p t2)), ("newitem", some new), ("childpos", some (.int (child lt xs.length ys pos) tc')), ("rightpos", u2)] [(a, .list ys)] h) ?_ ?_)
    · refine isTrue_and (wpAny_isTrue_Compare1 (r_ld S (by walk_at "mem") (r_ld S (by walk_at "mem") (PyProof.Rows.lt_int (wpAny_truthy_bool ?_)))))
      by_cases hr : 2 * pos + 2 < xs.length
      · rw [if_pos (by simp; lia)]
        have hc2 := getD_some (xs := ys) (i := 2 * pos + 2) (by lia)
        have Ec2 := hys _ (List.mem_of_getElem? hc2)
        have e1 : (2 * (pos : Int) + 1) = ((2 * pos + 1 : Nat) : Int) := by lia
        have e2 : (((2 * pos + 1 : Nat) : Int) + 1) = ((2 * pos + 2 : Nat) : Int) := by lia
        rw [e1, e2] at S
        refine isTrue_and (isTrue_not (wpAny_isTrue_Compare1 (Subscript_ (r_ld S (by walk_at "mem") (r_ld S (by walk_at "mem") (r_item (S.lst (by walk_at "mem")) (by lia) hc1 (Subscript_ (r_ld S (by walk_at "mem") (r_ld S (by walk_at "mem") (r_item (S.lst (by walk_at "mem")) (by lia) hc2 (O.cmp _ _ (rm.le) (uc.trans S.kp) Ec1 Ec2 fun h₈ t₈ up₈ => wpAny_truthy_bool ?_)))))))))))
        replace S := S.grow up₈
        cases hlt : lt (ys.getD (2 * pos + 1) .none) (ys.getD (2 * pos + 2) .none) with
        | true =>
          have e : child lt xs.length ys pos = 2 * pos + 1 := by unfold child; rw [if_neg (fun q => by rw [hlt] at q; cases q.2)]
          rw [← e] at S
          exact wpAny_execs_nil ⟨rfl, h₈, t₈, ⟨_, _, S⟩, rfl⟩
        | false =>
          refine isTrue_and_nil (wpAny_execs_cons (r_asg (r_ld S (by walk_at "mem") (r_st S (by walk_at "put") ?_))))
          intro h₉ t₉ S
          have e : child lt xs.length ys pos = 2 * pos + 2 := by unfold child; rw [if_pos ⟨hr, hlt⟩]
          rw [← e] at S
          exact wpAny_execs_nil ⟨rfl, h₉, t₉, ⟨_, _, S⟩, rfl⟩
      · rw [if_neg (by simp; lia)]
        have e : ((child lt xs.length ys pos : Nat) : Int) = 2 * (pos : Int) + 1 := by unfold child; rw [if_neg (by simp [hr])]; lia
        rw [← e] at S
        exact wpAny_execs_nil ⟨rfl, h₇, _, ⟨_, _, S⟩, rfl⟩
    clear S
    rintro h₈ t₈ ⟨tc', u2, S⟩
    have hcl : child lt xs.length ys pos < xs.length ∧ pos < child lt xs.length ys pos := by unfold child; split <;> lia
    generalize child lt xs.length ys pos = ch at *
    have hcc := getD_some (xs := ys) (i := ch) (by lia)
    have Ecc := hys _ (List.mem_of_getElem? hcc)
    refine wpAny_execs_cons (wpAny_Assign_Subscript (Subscript_ (r_ld S (by walk_at "mem") (r_ld S (by walk_at "mem") (r_item (S.lst (by walk_at "mem")) (by lia) hcc (r_ld S (by walk_at "mem") (r_ld S (by walk_at "mem") (r_setitem S (by walk_at "mem") (by walk_at "rep") (by lia) hpos ?_))))))))
    intro h₉ S
    refine wpAny_execs_cons (r_asg (r_ld S (by walk_at "mem") (r_st S (by walk_at "put") ?_)))
    intro h10 t10 S
    refine wpAny_execs_cons (r_asg (wpAny_BinOp (wpAny_BinOp (wpAny_Constant_int (r_ld S (by walk_at "mem") (PyProof.Rows.mul_int (wpAny_Constant_int (PyProof.Rows.add_int (r_st S (by walk_at "put") ?_))) (IntMulOk.of_left (by decide +kernel))))))))
    intro h11 t11 S
    exact wpAny_execs_nil (hQb _ _ ⟨xs.length - ch, h11, t11, by lia, ⟨ch, f, _, _, _, _, _, rfl, S, by simp; lia, by simpa using hlen, mem_set hys Ecc, by lia, hgoal⟩, rfl⟩)
  · rw [if_neg (by simp; lia)]
    refine ⟨h₆, _, ⟨pos, ys, _, _, _, _, S, hpos, hlen, hys, ?_⟩, rfl⟩
    rw [← hgoal, suLoop_stop hch]
end
end Mine
namespace Mine
open PySem PySem.W PyProof.Rows
section
variable (lt : Value → Value → Bool)
noncomputable def hpush (xs : List Value) (v : Value) : List Value := siftdown lt (xs ++ [v]) 0 xs.length
noncomputable def hpopV (xs : List Value) (last : Value) : Value := match xs with | [] => last | x :: _ => x
noncomputable def hpopL (xs : List Value) (last : Value) : List Value := match xs with | [] => [] | _ :: r => siftup lt (last :: r) 0
noncomputable def hify (xs : List Value) : List Value := (List.range (xs.length / 2)).reverse.foldl (fun ys i => siftup lt ys i) xs
end
theorem sdLoop_len {lt : Value → Value → Bool} {new : Value} {s : Nat} : ∀ (f : Nat) (xs : List Value) (pos : Nat), (sdLoop lt new s f xs pos).length = xs.length
  | 0, xs, pos => by simp [sdLoop]
  | f + 1, xs, pos => by
    unfold sdLoop
    split
    · split
      · rw [sdLoop_len]; simp
      · simp
    · simp
theorem siftdown_len {lt : Value → Value → Bool} {xs : List Value} {s p : Nat} : (siftdown lt xs s p).length = xs.length := sdLoop_len ..
theorem suLoop_len {lt : Value → Value → Bool} {n : Nat} : ∀ (f : Nat) (xs : List Value) (pos : Nat), (suLoop lt n f xs pos).1.length = xs.length
  | 0, xs, pos => rfl
  | f + 1, xs, pos => by
    unfold suLoop
    split
    · rw [suLoop_len]; simp
    · rfl
theorem siftup_len {lt : Value → Value → Bool} {xs : List Value} {p : Nat} : (siftup lt xs p).length = xs.length := by
  unfold siftup; rw [siftdown_len]; simp [suLoop_len]
theorem getD_all {P : Value → Prop} {xs : List Value} (h : ∀ v ∈ xs, P v) {i : Nat} (hi : i < xs.length) : P (xs.getD i .none) := h _ (List.mem_of_getElem? (getD_some hi))
theorem sdLoop_all {P : Value → Prop} {lt : Value → Value → Bool} {new : Value} (hn : P new) {s : Nat} : ∀ (f : Nat) (xs : List Value) (pos : Nat), pos < xs.length → (∀ v ∈ xs, P v) → ∀ v ∈ sdLoop lt new s f xs pos, P v
  | 0, xs, pos, hp, hx => mem_set hx hn
  | f + 1, xs, pos, hp, hx => by
    unfold sdLoop
    split
    · split
      · exact sdLoop_all hn f _ _ (by simp; lia) (mem_set hx (getD_all hx (by lia)))
      · exact mem_set hx hn
    · exact mem_set hx hn
theorem siftdown_all {P : Value → Prop} {lt : Value → Value → Bool} {xs : List Value} {s p : Nat} (hp : p < xs.length) (hx : ∀ v ∈ xs, P v) : ∀ v ∈ siftdown lt xs s p, P v :=
  sdLoop_all (getD_all hx hp) _ _ _ hp hx
theorem suLoop_all {P : Value → Prop} {lt : Value → Value → Bool} {n : Nat} : ∀ (f : Nat) (xs : List Value) (pos : Nat), n = xs.length → pos < xs.length → (∀ v ∈ xs, P v) → (∀ v ∈ (suLoop lt n f xs pos).1, P v) ∧ (suLoop lt n f xs pos).2 < n
  | 0, xs, pos, hn, hp, hx => ⟨hx, hn ▸ hp⟩
  | f + 1, xs, pos, hn, hp, hx => by
    unfold suLoop
    split
    · have hc : child lt n xs pos < xs.length := by unfold child; split <;> lia
      exact suLoop_all f _ _ (by simp [hn]) (by simpa using hc) (mem_set hx (getD_all hx hc))
    · exact ⟨hx, hn ▸ hp⟩
theorem siftup_all {P : Value → Prop} {lt : Value → Value → Bool} {xs : List Value} {p : Nat} (hp : p < xs.length) (hx : ∀ v ∈ xs, P v) : ∀ v ∈ siftup lt xs p, P v := by
  obtain ⟨a, b⟩ := suLoop_all (lt := lt) xs.length xs p rfl hp hx
  exact siftdown_all (by simpa [suLoop_len] using b) (mem_set a (getD_all hx hp))
section
variable {prog : Program} {w : World} {A : Around} {E : Value → Shared → Prop} {h c : Heap} {g : Array GenState} {d : Drawn} {t : Nat} {o : OsState} {nm bn : List (Str × Value)}
local macro_rules | `(tactic| walk_at "mem") => `(tactic| first | with_reducible exact List.mem_cons_self | (with_reducible refine List.mem_cons_of_mem _ ?_; walk_at "mem"))
local macro_rules | `(tactic| walk_at "rep") => `(tactic| first | with_reducible exact Rep.head | (with_reducible apply Rep.tail; walk_at "rep"))
local macro_rules | `(tactic| walk_at "put") => `(tactic| first | with_reducible exact Put.head | (with_reducible apply Put.tail; walk_at "put"))
set_option pp.deepTerms false
set_option pp.deepTerms.threshold 2
set_option maxRecDepth 20000 in
theorem heappush_spec {n : Nat} {El : Value → Prop} {lt : Value → Value → Bool} {a : Addr} {xs : List Value} {v : Value} {Q : Value → Shared → Prop}
    (D : IsDef c 69 (stm 9)) (D2 : IsDef c 90 (stm 12)) (G : Glb c nm bn) (hn : (("_siftdown" : Str), Value.ref 90) ∈ nm) (hb : (("len" : Str), Value.builtin "len") ∈ bn) (O : Ord prog w n c El lt) (u : Up c h) (ca : c.get? a = none)
    (hl : h.PlainList a xs.toArray) (hEl : ∀ v ∈ xs, El v) (hv : El v) (hsz : xs.length < 1000) (room : Rm A (n + 2))
    (k : ∀ h' t', UpBut [a] h h' → h'.PlainList a (hpush lt xs v).toArray → Q .none ⟨h', g, d, t', o⟩) :
    wpAny (model prog w) A (call (.ref 69) [.ref a, v]) Q E ⟨h, g, d, t, o⟩ := by
  have uc : Up c (hideAll h [a]) := hidden_up u (by simpa using ca)
  refine enter [(a, .list xs)] [("heap", .ref a), ("item", v)] [] (D.up u) (G.lim.keeps u) room (by simpa [RO.At] using hl) (by simp) (fun _ _ _ _ _ _ _ _ => rfl) (by kernel_rfl) ?_
  intro env h₁ t₁ esc eg eb _ rm S up
  simp only [List.map_cons, List.map_nil, List.cons_append, List.nil_append] at S
  have K : GK env ["len", "_siftdown"] := .of eg eb (by rw [esc]; kernel_rfl)
  generalize hcb : hideAll h [a] = cb at S uc
  have G' := G.up uc
  generalize A.deeper env = B at rm ⊢
  refine wpAny_execs_cons (r_expr S (r_m1 (r_ld S (by walk_at "mem") ⟨_, has_append (S.pl (by walk_at "mem")), r_ld S (by walk_at "mem") (r_append S (by walk_at "mem") (by walk_at "rep") (by lia) fun h₂ S => ⟨rfl, ?_⟩)⟩)))
  refine wpAny_execs_cons (r_expr S (r_cf3 S G' K (D2.up uc) (by walk_at "mem") hn (r_ld S (by walk_at "mem") (wpAny_Constant_int (wpAny_BinOp (r_cb1 S G' K (by walk_at "mem") hb (r_ld S (by walk_at "mem") (r_len (S.lst (by walk_at "mem")) (by simp; lia) fun _ _ => wpAny_Constant_int (PyProof.Rows.sub_int ⟨S.kp, ?_⟩)))))))))
  have e : (((xs ++ [v]).length : Nat) : Int) - 1 = ((xs.length : Nat) : Int) := by simp
  rw [e]
  refine siftdown_spec (s := 0) D2 G O (uc.trans S.kp) ca (S.pl (by walk_at "mem")) (by intro y hy; rcases List.mem_append.mp hy with q | q; exact hEl y q; exact (List.mem_singleton.mp q) ▸ hv) (by simp) (by simp; lia) rm.le fun h' t' ub pl => ⟨rfl, ?_⟩
  replace S := S.updB (r' := .list _) (R' := [(a, .list _)]) .head ub pl
  subst hcb
  exact wpAny_execs_nil (k _ _ S.done pl)
set_option maxRecDepth 20000 in
theorem heappop_spec {n : Nat} {El : Value → Prop} {lt : Value → Value → Bool} {a : Addr} {xs : List Value} {last : Value} {Q : Value → Shared → Prop}
    (D : IsDef c 76 (stm 10)) (D2 : IsDef c 90 (stm 12)) (D3 : IsDef c 97 (stm 13)) (G : Glb c nm bn) (hn : (("_siftdown" : Str), Value.ref 90) ∈ nm) (hn2 : (("_siftup" : Str), Value.ref 97) ∈ nm) (hb : (("len" : Str), Value.builtin "len") ∈ bn) (O : Ord prog w n c El lt) (u : Up c h) (ca : c.get? a = none)
    (hl : h.PlainList a (xs ++ [last]).toArray) (hEl : ∀ v ∈ xs ++ [last], El v) (hsz : xs.length < 1000) (room : Rm A (n + 3))
    (k : ∀ h' t', UpBut [a] h h' → h'.PlainList a (hpopL lt xs last).toArray → Q (hpopV xs last) ⟨h', g, d, t', o⟩) :
    wpAny (model prog w) A (call (.ref 76) [.ref a]) Q E ⟨h, g, d, t, o⟩ := by
  have uc : Up c (hideAll h [a]) := hidden_up u (by simpa using ca)
  refine enter [(a, .list (xs ++ [last]))] [("heap", .ref a)] ["lastelt", "returnitem"] (D.up u) (G.lim.keeps u) room (by simpa [RO.At] using hl) (by simp) (fun _ _ _ _ _ _ _ _ => rfl) (by kernel_rfl) ?_
  intro env h₁ t₁ esc eg eb _ rm S up
  simp only [List.map_cons, List.map_nil, List.cons_append, List.nil_append] at S
  have K : GK env ["_siftup"] := .of eg eb (by rw [esc]; kernel_rfl)
  generalize hcb : hideAll h [a] = cb at S uc
  have G' := G.up uc
  generalize A.deeper env = B at rm ⊢
  refine wpAny_execs_cons (r_asg (r_m0 (r_ld S (by walk_at "mem") ⟨_, has_pop (S.pl (by walk_at "mem")), r_pop S (by walk_at "mem") (by walk_at "rep") (by lia) fun h₂ S => r_st S (by walk_at "put") ?_⟩)))
  intro h₃ t₃ S
  refine wpAny_execs_cons (wpAny_If (r_iflist S (by walk_at "mem") (S.lst (by walk_at "mem")) (by lia) fun t₄ => ?_))
  cases xs with
  | nil =>
    simp only [List.isEmpty_nil, Bool.not_true, Bool.false_eq_true, if_false]
    refine wpAny_execs_nil (wpAny_execs_cons (wpAny_Return_some (r_ld S (by walk_at "mem") ?_)))
    subst hcb
    have P := S.pl (a := a) (by walk_at "mem")
    exact k _ _ S.done P
  | cons x r =>
    simp only [List.isEmpty_cons, Bool.not_false, if_true]
    have Ex : El x := hEl x (by simp)
    have El' : ∀ v ∈ (x :: r), El v := fun v hv => hEl v (List.mem_append_left _ hv)
    have Elast : El last := hEl last (by simp)
    refine wpAny_execs_cons (r_asg (Subscript_ (r_ld S (by walk_at "mem") (wpAny_Constant_int (r_item (k := 0) (S.lst (by walk_at "mem")) (by lia) rfl (r_st S (by walk_at "put") ?_))))))
    intro h₅ t₅ S
    refine wpAny_execs_cons (wpAny_Assign_Subscript (r_ld S (by walk_at "mem") (r_ld S (by walk_at "mem") (wpAny_Constant_int (r_setitem (k := 0) S (by walk_at "mem") (by walk_at "rep") (by lia) (by simp) ?_)))))
    intro h₆ S
    refine wpAny_execs_cons (r_expr S (r_cf2 S G' K (D3.up uc) (by walk_at "mem") hn2 (r_ld S (by walk_at "mem") (wpAny_Constant_int ⟨S.kp, ?_⟩))))
    refine siftup_spec (p := 0) D3 D2 G hn hb O (uc.trans S.kp) ca (S.pl (by walk_at "mem")) (mem_set El' Elast) (by simp) (by simp at hsz ⊢; lia) rm fun h' t' ub pl => ⟨rfl, ?_⟩
    replace S := S.updB (r' := .list _) (R' := [(a, .list _)]) .head ub pl
    refine wpAny_execs_cons (wpAny_Return_some (r_ld S (by walk_at "mem") ?_))
    subst hcb
    have P := S.pl (a := a) (by walk_at "mem")
    exact k _ _ S.done P
set_option maxRecDepth 20000 in
theorem heapify_spec {n : Nat} {El : Value → Prop} {lt : Value → Value → Bool} {a : Addr} {xs : List Value} {Q : Value → Shared → Prop}
    (D : IsDef c 83 (stm 11)) (D2 : IsDef c 90 (stm 12)) (D3 : IsDef c 97 (stm 13)) (G : Glb c nm bn) (hn : (("_siftdown" : Str), Value.ref 90) ∈ nm) (hn2 : (("_siftup" : Str), Value.ref 97) ∈ nm) (hb : (("len" : Str), Value.builtin "len") ∈ bn)
    (hb2 : (("range" : Str), Value.type "range") ∈ bn) (hb3 : (("reversed" : Str), Value.type "reversed") ∈ bn) (O : Ord prog w n c El lt) (u : Up c h) (ca : c.get? a = none)
    (hl : h.PlainList a xs.toArray) (hEl : ∀ v ∈ xs, El v) (hsz : xs.length < 1000) (room : Rm A (n + 3))
    (k : ∀ h' t', UpBut [a] h h' → h'.PlainList a (hify lt xs).toArray → Q .none ⟨h', g, d, t', o⟩) :
    wpAny (model prog w) A (call (.ref 83) [.ref a]) Q E ⟨h, g, d, t, o⟩ := by
  have uc : Up c (hideAll h [a]) := hidden_up u (by simpa using ca)
  refine enter [(a, .list xs)] [("x", .ref a)] ["n", "i"] (D.up u) (G.lim.keeps u) room (by simpa [RO.At] using hl) (by simp) (fun _ _ _ _ _ _ _ _ => rfl) (by kernel_rfl) ?_
  intro env h₁ t₁ esc eg eb _ rm S up
  simp only [List.map_cons, List.map_nil, List.cons_append, List.nil_append] at S
  have K : GK env ["len", "range", "reversed", "_siftup"] := .of eg eb (by rw [esc]; kernel_rfl)
  generalize hcb : hideAll h [a] = cb at S uc
  have G' := G.up uc
  generalize A.deeper env = B at rm ⊢
  refine wpAny_execs_cons (r_asg (r_cb1 S G' K (by walk_at "mem") hb (r_ld S (by walk_at "mem") (r_len (S.lst (by walk_at "mem")) (by lia) fun _ _ => r_st S (by walk_at "put") ?_))))
  intro h₂ t₂ S
  have e2 : ((xs.length : Nat) : Int).fdiv 2 = ((xs.length / 2 : Nat) : Int) := by rw [Int.fdiv_eq_ediv_of_nonneg _ (by decide)]; lia
  refine wpAny_execs_cons (wpAny_For (r_ct1 S G' K (by walk_at "mem") hb3 (r_ct1 S G' K (by walk_at "mem") hb2 (wpAny_BinOp (r_ld S (by walk_at "mem") (wpAny_Constant_int (floordiv_int (by decide) ?_ (.inl (PyProof.noPylong_small (by lia))))))))))
  rw [e2]
  generalize hkk : xs.length / 2 = kk at *
  refine r_range1 fun b h₃ t₃ _ _ up₃ nb hr => r_revrange (by lia) (by lia) hr fun I h₄ t₄ up₄ nI hI => wpAny_pyIter_rangeiter hI ?_
  have S₃ := S.grow up₃
  have S₄ := S₃.grow up₄
  have W := Walks.range (prog := prog) (w := w) rm.hd I ((kk : Int) - 1) (-1) kk
  refine r_for W (fun y : List Value × Option Value × Option Value => [("x", some (.ref a)), ("n", y.2.1), ("i", y.2.2)]) (fun y v => [("x", some (.ref a)), ("n", y.2.1), ("i", some v)]) (fun y => [(a, .list y.1)])
      (fun i y => y.1.length = xs.length ∧ (∀ v ∈ y.1, El v) ∧ y.1 = ((List.range kk).reverse.take i).foldl (fun ys i => siftup lt ys i) xs) (xs, _, _) S₄ ⟨rfl, hEl, rfl⟩ (by simpa using hI) (fun i h hs b hb => ⟨_, (List.mem_singleton.mp hb) ▸ hs⟩)
    (fun b hb => S₃.cnone ((List.mem_singleton.mp hb) ▸ nI)) (fun b hb => S₃.off ((List.mem_singleton.mp hb) ▸ nI)) (fun y v => .tail (.tail .head)) ?_ ?_
  · rintro i v c' ⟨ys, u1, u2⟩ h₅ t₅ hi ⟨tv, rfl⟩ uc' ⟨hlen, hys, hfold⟩ S
    dsimp only at hlen hys hfold S
    have e : (kk : Int) - 1 + (i : Int) * -1 = ((kk - 1 - i : Nat) : Int) := by lia
    rw [e] at S
    refine wpAny_execs_cons (r_expr S (r_cf2 S (G'.up uc') K (D3.up (uc.trans uc')) (by walk_at "mem") hn2 (r_ld S (by walk_at "mem") (r_ld S (by walk_at "mem") ⟨S.kp, ?_⟩))))
    refine siftup_spec D3 D2 G hn hb O (uc.trans (uc'.trans S.kp)) ca (S.pl (by walk_at "mem")) hys (by lia) (by lia) rm fun h' t' ub pl => ⟨rfl, ?_⟩
    replace S := S.updB (r' := .list _) (R' := [(a, .list _)]) .head ub pl
    refine wpAny_execs_nil ⟨(siftup lt ys (kk - 1 - i), _, _), h', t', ⟨by rw [siftup_len]; exact hlen, siftup_all (by lia) hys, ?_⟩, S, rfl⟩
    have hg : (List.range kk).reverse[i]? = some (kk - 1 - i) := by
      rw [List.getElem?_reverse (by simpa using hi), List.length_range, List.getElem?_range (by lia)]
    rw [List.take_add_one, hg, List.foldl_append, ← hfold]; rfl
  · rintro ⟨ys, u1, u2⟩ h₅ t₅ ⟨hlen, hys, hfold⟩ S
    dsimp only at hlen hys hfold S
    subst hcb
    refine wpAny_execs_nil (k _ _ S.done ?_)
    have P := S.pl (a := a) (by walk_at "mem")
    have e : ys = hify lt xs := by rw [hfold, hify, hkk, List.take_of_length_le (by simp)]
    exact e ▸ P
end
end Mine
namespace Mine
open PySem PySem.W PyProof.Rows
local macro_rules | `(tactic| walk_at "mem") => `(tactic| first | with_reducible exact List.mem_cons_self | (with_reducible refine List.mem_cons_of_mem _ ?_; walk_at "mem"))
local macro_rules | `(tactic| walk_at "put") => `(tactic| first | with_reducible exact PutP.head | (with_reducible apply PutP.tail; walk_at "put"))
local macro_rules | `(tactic| walk_at "args") => `(tactic| (refine args1 fun _ => ?_; intros; rfl))
local macro_rules | `(tactic| walk_at "args2") => `(tactic| (refine args2 fun _ _ => ?_; intros; rfl))
/-- shorter ones first, equally long ones as texts -/
noncomputable def cmpT (l m : List Nat) : Int := if l.length = m.length then (if m < l then 1 else 0) - (if l < m then 1 else 0) else (l.length : Int) - m.length
section
variable {prog : Program} {w : World} {A : Around} {K : Heap} {l m : List Nat} {nm bn : List (Str × Value)}
theorem Ev.cast {env : Env} {ρ : Vars} {R : Led} {e : Expr} {p q : PV} (h : p = q) (x : Ev prog w A K env ρ R e p) : Ev prog w A K env ρ R e q := h ▸ x
theorem op_bsub {a b : Bool} : Op2 prog w A .Sub (.val (.bool a)) (.val (.bool b)) (.int (b2i a - b2i b)) := fun c h v u k d1 d2 g d t o Q E q => by
  simp only [Den] at d1 d2; subst d1 d2
  exact sub_bool (q _ _ _ _ (.refl k) (by simp [Den]))
theorem tr_int {i : Int} : Tr prog w A (.int i) (i != 0) := fun c h v k d1 g d t o Q E q => by
  simp only [Den] at d1; obtain ⟨_, rfl⟩ := d1
  exact PyProof.Rows.truthy_int (q _ _ _ (.refl k))
set_option pp.deepTerms false
set_option maxRecDepth 20000 in
theorem law_compare_cl (D : IsDef K 149 (stm 22)) (GG : Glb K nm bn) (b1 : (("len" : Str), Value.builtin "len") ∈ bn) (room : Rm A 1) (hl : l.length < 1000000) (hm : m.length < 1000000) : Cl prog w A K (.ref 149) [.str l, .str m] (.int (cmpT l m)) := by
  refine cl_of ["one", "other"] [] D GG.lim room (by walk_at "args2") rfl (by kernel_rfl) ?_
  intro env G c h g d t o Q gf e1 e2 e3 rm u F k
  simp only [List.map_cons, List.map_nil, List.zip_cons_cons, List.zip_nil_right, List.append_nil] at F
  have kk : GK env ["len"] := .of e2 e3 (by rw [e1]; kernel_rfl)
  refine s_ret (ev_or (b := ((l.length : Int) - m.length != 0)) (ev_bin (ev_callB (ev_bi GG kk (by walk_at "mem") b1) (evl_cons (ev_name (by walk_at "mem")) evl_nil) (cl_slen (by lia))) (ev_callB (ev_bi GG kk (by walk_at "mem") b1) (evl_cons (ev_name (by walk_at "mem")) evl_nil) (cl_slen (by lia))) op_sub) tr_int (fun hb => ?_) (fun hb => ?_)) u F fun c' v h' t' x F' dv => k _ _ _ _ _ _ F' dv
  · have : l.length ≠ m.length := fun e => by rw [e] at hb; simp at hb
    rw [cmpT, if_neg this]
  · have : l.length = m.length := by
      have := (bne_eq_false_iff_eq).mp hb
      lia
    refine Ev.cast ?_ (ev_bin (ev_cmp (ev_name (by walk_at "mem")) (ev_name (by walk_at "mem")) cm_sgt) (ev_cmp (ev_name (by walk_at "mem")) (ev_name (by walk_at "mem")) cm_slt) op_bsub)
    rw [cmpT, if_pos this]
    simp only [b2i, decide_eq_true_eq]
end
end Mine
namespace Mine
open PySem PySem.W PyProof.Rows
/-! a tree run over a list of known objects: which object a load asks for is told ahead (ors), new addresses are sup 0 + 100, sup 1 + 100, .. (so that a comparison with a small literal can be run) -/
abbrev Objs := List (Addr × Obj)
inductive RnOut (α : Type) where
  | ok (v : α)
  | call (c : Code) (hd : Option Value) (k : Result → Sem α)
  | stack (k : List (Code × Pos) → Sem α)
  | raise (e : Value)
  | need (a : Addr)
  | bad
structure Rn (α : Type) where
  out : RnOut α
  n : Nat
  t : Nat
  N : Objs
  obl : List (Addr × Addr)
  ors : List Nat
/-- an index: below 1000 among the own objects, from 1000 on among the standing ones -/
noncomputable def pick (B N : Objs) (i : Nat) : Option (Addr × Obj) := bif Nat.ble 1000 i then B[i - 1000]? else N[i]?
noncomputable def drv {α : Type} (g : Setting) (B : Objs) (sup : Nat → Addr) : Sem α → Nat → List Nat → Nat → Objs → List (Addr × Addr) → Rn α
  | .pure v, n, ors, t, N, obl => ⟨.ok v, n, t, N, obl, ors⟩
  | .rule _ k, n, ors, t, N, obl => drv g B sup (k ()) n ors t N obl
  | .at _ k, n, ors, t, N, obl => drv g B sup (k ()) n ors t N obl
  | .point _ k, n, ors, t, N, obl => drv g B sup (k ()) n ors t N obl
  | .ask k, n, ors, t, N, obl => drv g B sup (k g) n ors t N obl
  | .handled false k, n, ors, t, N, obl => drv g B sup (k none) n ors t N obl
  | .fresh k, n, ors, t, N, obl => drv g B sup (k t) n ors (t + 1) N obl
  | .load a _ k, n, ors, t, N, obl => match ors with
    | i :: ors => match pick B N i with
      | some (b, o) => drv g B sup (k o) n ors t N ((a, b) :: obl)
      | none => ⟨.bad, n, t, N, obl, ors⟩
    | [] => ⟨.need a, n, t, N, obl, []⟩
  | .loadIfAlive a k, n, ors, t, N, obl => match ors with
    | i :: ors => match pick B N i with
      | some (b, o) => drv g B sup (k (some o)) n ors t N ((a, b) :: obl)
      | none => ⟨.bad, n, t, N, obl, ors⟩
    | [] => ⟨.need a, n, t, N, obl, []⟩
  | .update a _ f k, n, ors, t, N, obl => match ors with
    | i :: ors => match N[i]? with
      | some (b, o) => bif (f o).isFreed then ⟨.bad, n, t, N, obl, ors⟩ else drv g B sup (k ()) n ors t (N.set i (b, f o)) ((a, b) :: obl)
      | none => ⟨.bad, n, t, N, obl, ors⟩
    | [] => ⟨.need a, n, t, N, obl, []⟩
  | .alloc o k, n, ors, t, N, obl => bif o.isFreed then ⟨.bad, n, t, N, obl, ors⟩ else drv g B sup (k (sup n + 100)) (n + 1) ors t (N ++ [(sup n + 100, o)]) obl
  | .call c hd _ _ k, n, ors, t, N, obl => ⟨.call c hd k, n, t, N, obl, ors⟩
  | .stack k, n, ors, t, N, obl => ⟨.stack k, n, t, N, obl, ors⟩
  | .raise e, n, ors, t, N, obl => ⟨.raise e, n, t, N, obl, ors⟩
  | _, n, ors, t, N, obl => ⟨.bad, n, t, N, obl, ors⟩
section
variable {α : Type} (st : Setting) (B : Objs) (sup : Nat → Addr) (n i t : Nat) (ors : List Nat) (N : Objs) (obl : List (Addr × Addr)) (a : Addr)
theorem drv_load (p : Option Value) (k : Obj → Sem α) : drv st B sup (.load a p k) n (i :: ors) t N obl = match pick B N i with
  | some (b, o) => drv st B sup (k o) n ors t N ((a, b) :: obl)
  | none => ⟨.bad, n, t, N, obl, ors⟩ := by kernel_rfl
theorem drv_alive (k : Option Obj → Sem α) : drv st B sup (.loadIfAlive a k) n (i :: ors) t N obl = match pick B N i with
  | some (b, o) => drv st B sup (k (some o)) n ors t N ((a, b) :: obl)
  | none => ⟨.bad, n, t, N, obl, ors⟩ := by kernel_rfl
theorem drv_upd (p : Option Value) (f : Obj → Obj) (k : Unit → Sem α) : drv st B sup (.update a p f k) n (i :: ors) t N obl = match N[i]? with
  | some (b, o) => bif (f o).isFreed then ⟨.bad, n, t, N, obl, ors⟩ else drv st B sup (k ()) n ors t (N.set i (b, f o)) ((a, b) :: obl)
  | none => ⟨.bad, n, t, N, obl, ors⟩ := by kernel_rfl
theorem drv_alloc (o : Obj) (k : Addr → Sem α) : drv st B sup (.alloc o k) n ors t N obl = bif o.isFreed then ⟨.bad, n, t, N, obl, ors⟩ else drv st B sup (k (sup n + 100)) (n + 1) ors t (N ++ [(sup n + 100, o)]) obl := rfl
end
/-- the own objects of a stretch: not among what stands in c -/
structure Own1 (c h : Heap) (N : Objs) : Prop where
  up : Up c h
  at' : ∀ q ∈ N, h.get? q.1 = some q.2
  nc : ∀ q ∈ N, c.get? q.1 = none
  nd : (N.map (·.1)).Nodup
  sz : 100 ≤ h.objs.size
theorem Own1.get {c h : Heap} {N : Objs} (O : Own1 c h N) (i : Nat) {a : Addr} {o : Obj} (e : N[i]? = some (a, o)) : h.get? a = some o := O.at' _ (List.mem_of_getElem? e)
theorem Own1.push {c h : Heap} {N : Objs} (O : Own1 c h N) (o : Obj) (hf : o.isFreed = false) : Own1 c (h.push o) (N ++ [(h.objs.size, o)]) where
  up := O.up.trans (up_push _)
  at' := fun q hq => by
    rcases List.mem_append.mp hq with hq | hq
    · exact up_push _ _ _ (O.at' q hq)
    · rw [List.mem_singleton.mp hq]; exact Heap.get?_push_size _ hf
  nc := fun q hq => by
    rcases List.mem_append.mp hq with hq | hq
    · exact O.nc q hq
    · rw [List.mem_singleton.mp hq]
      cases e : c.get? h.objs.size with
      | none => rfl
      | some ob => exact absurd (Heap.lt_size (O.up _ _ e)) (Nat.lt_irrefl _)
  nd := by
    rw [List.map_append, List.nodup_append]
    refine ⟨O.nd, by simp, ?_⟩
    intro a ha b hb
    obtain ⟨q, hq, rfl⟩ := List.mem_map.mp ha
    simp at hb
    subst hb
    exact Nat.ne_of_lt (Heap.lt_size (O.at' q hq))
  sz := by rw [Heap.size_push]; have := O.sz; lia
theorem Own1.upd {c h : Heap} {N : Objs} (O : Own1 c h N) {i : Nat} {a : Addr} {o : Obj} (e : N[i]? = some (a, o)) (f : Obj → Obj) (hf : (f o).isFreed = false) : Own1 c (h.update a f) (N.set i (a, f o)) := by
  obtain ⟨hi, hei⟩ := List.getElem?_eq_some_iff.mp e
  have hm : (N.set i (a, f o)).map (·.1) = N.map (·.1) := by
    rw [List.map_set]
    refine List.ext_getElem? fun j => ?_
    rw [List.getElem?_set]
    split
    · rename_i hij; subst hij
      rw [List.getElem?_map, e]; simp [hi]
    · rfl
  have nea : ∀ j q, N[j]? = some q → j ≠ i → q.1 ≠ a := fun j q hj hne he => by
    have h1 : (N.map (·.1))[j]? = some a := by rw [List.getElem?_map, hj]; simp [he]
    have h2 : (N.map (·.1))[i]? = some a := by rw [List.getElem?_map, e]; rfl
    obtain ⟨l1, _⟩ := List.getElem?_eq_some_iff.mp h1
    exact hne ((List.getElem?_inj l1 O.nd).mp (h1.trans h2.symm))
  have ca : c.get? a = none := O.nc _ (List.mem_of_getElem? e)
  have sb : ∀ b, b ≠ a → (h.update a f).get? b = h.get? b := fun b hb => Heap.get?_update_other h f (Ne.symm hb)
  refine ⟨fun b ob eb => ?_, fun q hq => ?_, fun q hq => ?_, by rw [hm]; exact O.nd, by have e1 : (h.update a f).objs.size = h.objs.size := (Heap.SameBut.update ..).1; rw [e1]; exact O.sz⟩
  · rw [sb b fun z => by rw [z, ca] at eb; cases eb]; exact O.up b ob eb
  · obtain ⟨j, hj⟩ := List.mem_iff_getElem?.mp hq
    rw [List.getElem?_set] at hj
    split at hj
    · simp [hi] at hj
      rw [← hj]
      exact Heap.get?_update_self f (O.at' _ (List.mem_of_getElem? e)) hf
    · rename_i hij
      rw [sb _ (nea j q hj fun z => hij z.symm)]
      exact O.at' q (List.mem_of_getElem? hj)
  · obtain ⟨j, hj⟩ := List.mem_iff_getElem?.mp hq
    rw [List.getElem?_set] at hj
    split at hj
    · simp [hi] at hj
      rw [← hj]; exact ca
    · exact O.nc q (List.mem_of_getElem? hj)
section
variable {prog : Program} {w : World} {A : Around} {α : Type} {g : Array GenState} {d : Drawn} {o : OsState} {c : Heap} {B : Objs} {Q : α → Shared → Prop} {E : Value → Shared → Prop}
theorem drv_obl (st : Setting) (sup : Nat → Addr) : ∀ (m : Sem α) (n : Nat) (ors : List Nat) (t : Nat) (N : Objs) (obl : List (Addr × Addr)), ∀ q ∈ obl, q ∈ (drv st B sup m n ors t N obl).obl := by
  intro m
  induction m with
  | pure v => intro n ors t N obl q hq; exact hq
  | rule t k ih => intro n ors t N obl q hq; exact ih () _ _ _ _ _ q hq
  | «at» t k ih => intro n ors t N obl q hq; exact ih () _ _ _ _ _ q hq
  | point t k ih => intro n ors t N obl q hq; exact ih () _ _ _ _ _ q hq
  | ask k ih => intro n ors t N obl q hq; exact ih _ _ _ _ _ _ q hq
  | handled b k ih =>
    intro n ors t N obl q hq
    cases b with
    | false => exact ih _ _ _ _ _ _ q hq
    | true => exact hq
  | fresh k ih => intro n ors t N obl q hq; exact ih _ _ _ _ _ _ q hq
  | load a p k ih =>
    intro n ors t N obl q hq
    cases ors with
    | nil => exact hq
    | cons i ors =>
      rw [drv_load]
      cases e : pick B N i with
      | none => simpa [e] using hq
      | some z => obtain ⟨b, ob⟩ := z; simp only [e]; exact ih _ _ _ _ _ _ q (.tail _ hq)
  | loadIfAlive a k ih =>
    intro n ors t N obl q hq
    cases ors with
    | nil => exact hq
    | cons i ors =>
      rw [drv_alive]
      cases e : pick B N i with
      | none => simpa [e] using hq
      | some z => obtain ⟨b, ob⟩ := z; simp only [e]; exact ih _ _ _ _ _ _ q (.tail _ hq)
  | update a p f k ih =>
    intro n ors t N obl q hq
    cases ors with
    | nil => exact hq
    | cons i ors =>
      rw [drv_upd]
      cases e : N[i]? with
      | none => simpa [e] using hq
      | some z =>
        obtain ⟨b, ob⟩ := z
        simp only [e]
        cases ef : (f ob).isFreed
        · exact ih _ _ _ _ _ _ q (.tail _ hq)
        · exact hq
  | alloc ob k ih =>
    intro n ors t N obl q hq
    rw [drv_alloc]
    cases ef : ob.isFreed
    · exact ih _ _ _ _ _ _ q hq
    · exact hq
  | _ => intro n ors t N obl q hq; exact hq
noncomputable def Fine (prog : Program) (w : World) (A : Around) (g : Array GenState) (d : Drawn) (o : OsState) (c : Heap) (Q : α → Shared → Prop) (E : Value → Shared → Prop) (r : Rn α) : Prop :=
  (∀ q ∈ r.obl, q.1 = q.2) ∧ match r.out with
    | .ok v => ∀ h', Own1 c h' r.N → Q v ⟨h', g, d, r.t, o⟩
    | .call cd hd k => hd ≠ some byPass ∧ ∀ h', Own1 c h' r.N → codeAny (model prog w) (A.mark hd) cd (fun x s' => wpAny (model prog w) A (k x) Q E s') ⟨h', g, d, r.t, o⟩
    | .stack k => ∀ h', Own1 c h' r.N → wpAny (model prog w) A (.stack k) Q E ⟨h', g, d, r.t, o⟩
    | .raise e => ∀ h', Own1 c h' r.N → E e ⟨h', g, d, r.t, o⟩
    | .need _ => False
    | .bad => False
theorem drv_sound (hh : A.handled = none) (hB : ∀ q ∈ B, c.get? q.1 = some q.2) : ∀ (m : Sem α) (pre : List Addr) (ors : List Nat) (t : Nat) (N : Objs) (obl : List (Addr × Addr)) (h : Heap), Own1 c h N →
    (∀ (j : Nat) (a : Addr), pre[j]? = some a → 100 ≤ a) → (∀ sup : Nat → Addr, (∀ (j : Nat) (a : Addr), pre[j]? = some a → sup j + 100 = a) → Fine prog w A g d o c Q E (drv ⟨prog, w.params⟩ B sup m pre.length ors t N obl)) → wpAny (model prog w) A m Q E ⟨h, g, d, t, o⟩ := by
  intro m
  have supOf : ∀ pre : List Addr, (∀ (j : Nat) (a : Addr), pre[j]? = some a → 100 ≤ a) → ∃ sup : Nat → Addr, ∀ (j : Nat) (a : Addr), pre[j]? = some a → sup j + 100 = a := fun pre hp => ⟨fun j => pre.getD j 0 - 100, fun j a e => by
    have := hp j a e
    simp only [List.getD_eq_getElem?_getD, e, Option.getD_some]
    exact Nat.sub_add_cancel this⟩
  induction m with
  | pure v => intro pre ors t N obl h O hp F; obtain ⟨sup, hs⟩ := supOf pre hp; exact wpAny_pure ((F sup hs).2 h O)
  | rule _ k ih => intro pre ors t N obl h O hp F; exact X.x_rule (ih () pre ors t N obl h O hp F)
  | «at» _ k ih => intro pre ors t N obl h O hp F; exact X.x_at (ih () pre ors t N obl h O hp F)
  | point _ k ih => intro pre ors t N obl h O hp F; exact X.x_point (ih () pre ors t N obl h O hp F)
  | ask k ih => intro pre ors t N obl h O hp F; exact X.x_ask (ih _ pre ors t N obl h O hp F)
  | handled b k ih =>
    intro pre ors t N obl h O hp F
    cases b with
    | false => exact X.x_handled (hh ▸ ih none pre ors t N obl h O hp F)
    | true => obtain ⟨sup, hs⟩ := supOf pre hp; exact (F sup hs).2.elim
  | fresh k ih => intro pre ors t N obl h O hp F; exact X.x_fresh (ih t pre ors (t + 1) N obl h O hp F)
  | load a p k ih =>
    intro pre ors t N obl h O hp F
    obtain ⟨sup, hs⟩ := supOf pre hp
    cases ors with
    | nil => exact (F sup hs).2.elim
    | cons i ors =>
      cases e : pick B N i with
      | none => have := (F sup hs).2; rw [drv_load] at this; simp only [e] at this
      | some z =>
        obtain ⟨b, ob⟩ := z
        have eab : a = b := (F sup hs).1 (a, b) (by rw [drv_load]; simp only [e]; exact drv_obl _ _ _ _ _ _ _ _ _ (.head _))
        have hob : h.get? b = some ob := by
          unfold pick at e
          cases eb : Nat.ble 1000 i with
          | false => rw [eb] at e; exact O.get i e
          | true => rw [eb] at e; exact O.up _ _ (hB _ (List.mem_of_getElem? e))
        refine X.x_load (eab ▸ hob) (ih ob pre ors t N ((a, b) :: obl) h O hp fun sup hs => ?_)
        have := F sup hs
        rw [drv_load] at this
        simp only [e] at this
        exact this
  | loadIfAlive a k ih =>
    intro pre ors t N obl h O hp F
    obtain ⟨sup, hs⟩ := supOf pre hp
    cases ors with
    | nil => exact (F sup hs).2.elim
    | cons i ors =>
      cases e : pick B N i with
      | none => have := (F sup hs).2; rw [drv_alive] at this; simp only [e] at this
      | some z =>
        obtain ⟨b, ob⟩ := z
        have eab : a = b := (F sup hs).1 (a, b) (by rw [drv_alive]; simp only [e]; exact drv_obl _ _ _ _ _ _ _ _ _ (.head _))
        have hob : h.get? b = some ob := by
          unfold pick at e
          cases eb : Nat.ble 1000 i with
          | false => rw [eb] at e; exact O.get i e
          | true => rw [eb] at e; exact O.up _ _ (hB _ (List.mem_of_getElem? e))
        have step := ih (some ob) pre ors t N ((a, b) :: obl) h O hp fun sup hs => by
          have := F sup hs
          rw [drv_alive] at this
          simp only [e] at this
          exact this
        have step' : wpAny (model prog w) A (k (h.get? a)) Q E ⟨h, g, d, t, o⟩ := by rw [eab, hob]; exact step
        exact fun Γ p hΓ => step' Γ p hΓ
  | update a p f k ih =>
    intro pre ors t N obl h O hp F
    obtain ⟨sup, hs⟩ := supOf pre hp
    cases ors with
    | nil => exact (F sup hs).2.elim
    | cons i ors =>
      cases e : N[i]? with
      | none => have := (F sup hs).2; rw [drv_upd] at this; simp only [e] at this
      | some z =>
        obtain ⟨b, ob⟩ := z
        cases ef : (f ob).isFreed with
        | true => have := (F sup hs).2; rw [drv_upd] at this; simp only [e, ef, cond_true] at this
        | false =>
          have eab : a = b := (F sup hs).1 (a, b) (by rw [drv_upd]; simp only [e, ef, cond_false]; exact drv_obl _ _ _ _ _ _ _ _ _ (.head _))
          subst eab
          refine wpAny_bind (m := updatePart a p f) (f := k) (wpAny_updatePart (O.get i e) (ih () pre ors t _ ((a, a) :: obl) _ (O.upd e f ef) hp fun sup hs => ?_))
          have := F sup hs
          rw [drv_upd] at this
          simp only [e, ef, cond_false] at this
          exact this
  | alloc ob k ih =>
    intro pre ors t N obl h O hp F
    obtain ⟨sup, hs⟩ := supOf pre hp
    cases ef : ob.isFreed with
    | true => have := (F sup hs).2; rw [drv_alloc] at this; simp only [ef, cond_true] at this
    | false =>
      refine wpAny_bind (m := alloc ob) (f := k) (wpAny_alloc (ih h.objs.size (pre ++ [h.objs.size]) ors t _ obl _ (O.push ob ef) (fun j a ej => ?_) fun sup hs => ?_))
      · rw [List.getElem?_append] at ej
        split at ej
        · exact hp j a ej
        · have := List.mem_of_getElem? ej
          rw [List.mem_singleton.mp this]; exact O.sz
      have hn : sup pre.length + 100 = h.objs.size := hs pre.length _ (by simp)
      have := F sup fun j a ej => hs j a (by rw [List.getElem?_append_left (List.getElem?_eq_some_iff.mp ej).1]; exact ej)
      rw [drv_alloc] at this
      simp only [ef, cond_false, hn] at this
      rw [List.length_append, List.length_singleton]
      exact this
  | call cd hd gd l k ih =>
    intro pre ors t N obl h O hp F
    obtain ⟨sup, hs⟩ := supOf pre hp
    obtain ⟨_, hb, hc⟩ := F sup hs
    exact X.x_call (hc h O) hb
  | stack k ih => intro pre ors t N obl h O hp F; obtain ⟨sup, hs⟩ := supOf pre hp; exact (F sup hs).2 h O
  | raise e => intro pre ors t N obl h O hp F; obtain ⟨sup, hs⟩ := supOf pre hp; exact wpAny_throw ((F sup hs).2 h O)
  | _ => intro pre ors t N obl h O hp F; obtain ⟨sup, hs⟩ := supOf pre hp; exact (F sup hs).2.elim
end
end Mine
namespace Mine
open PySem PySem.W PyProof.Rows
noncomputable def outK {α : Type} : RnOut α → Result → Sem α
  | .call _ _ k => k
  | _ => fun _ => .unsupported ""
section
variable {prog : Program} {w : World} {A : Around} {α : Type} {g : Array GenState} {d : Drawn} {o : OsState} {c h : Heap} {B N : Objs} {Q : α → Shared → Prop} {E : Value → Shared → Prop} {m : Sem α} {t : Nat}
theorem obl_ok {l : List (Addr × Addr)} (e : l.map (·.1) = l.map (·.2)) : ∀ q ∈ l, q.1 = q.2 := by
  induction l with
  | nil => intro q hq; cases hq
  | cons p l ih =>
    rw [List.map_cons, List.map_cons] at e
    obtain ⟨e1, e2⟩ := List.cons.inj e
    intro q hq
    rcases List.mem_cons.mp hq with rfl | hq
    · exact e1
    · exact ih e2 q hq
theorem seg_ok (hh : A.handled = none) (hB : ∀ q ∈ B, c.get? q.1 = some q.2) (O : Own1 c h N) (ors : List Nat) (v : (Nat → Addr) → α)
    (e : ∀ sup, (drv ⟨prog, w.params⟩ B sup m 0 ors t N []).out = .ok (v sup))
    (eo : ∀ sup, (drv ⟨prog, w.params⟩ B sup m 0 ors t N []).obl.map (·.1) = (drv ⟨prog, w.params⟩ B sup m 0 ors t N []).obl.map (·.2))
    (k : ∀ sup h', Own1 c h' (drv ⟨prog, w.params⟩ B sup m 0 ors t N []).N → Q (v sup) ⟨h', g, d, (drv ⟨prog, w.params⟩ B sup m 0 ors t N []).t, o⟩) : wpAny (model prog w) A m Q E ⟨h, g, d, t, o⟩ := by
  refine drv_sound hh hB m [] ors t N [] h O (by simp) fun sup _ => ⟨obl_ok (eo sup), ?_⟩
  have := e sup
  show match (drv ⟨prog, w.params⟩ B sup m 0 ors t N []).out with | .ok v => _ | .call cd hd k => _ | .stack k => _ | .raise e => _ | .need _ => _ | .bad => _
  rw [this]
  exact fun h' O' => k sup h' O'
theorem seg_call (hh : A.handled = none) (hB : ∀ q ∈ B, c.get? q.1 = some q.2) (O : Own1 c h N) (ors : List Nat) (cd : (Nat → Addr) → Code)
    (e : ∀ sup, (drv ⟨prog, w.params⟩ B sup m 0 ors t N []).out = .call (cd sup) none (outK (drv ⟨prog, w.params⟩ B sup m 0 ors t N []).out))
    (eo : ∀ sup, (drv ⟨prog, w.params⟩ B sup m 0 ors t N []).obl.map (·.1) = (drv ⟨prog, w.params⟩ B sup m 0 ors t N []).obl.map (·.2))
    (k : ∀ sup h', Own1 c h' (drv ⟨prog, w.params⟩ B sup m 0 ors t N []).N →
      codeAny (model prog w) A (cd sup) (fun x s' => wpAny (model prog w) A (outK (drv ⟨prog, w.params⟩ B sup m 0 ors t N []).out x) Q E s') ⟨h', g, d, (drv ⟨prog, w.params⟩ B sup m 0 ors t N []).t, o⟩) :
    wpAny (model prog w) A m Q E ⟨h, g, d, t, o⟩ := by
  refine drv_sound hh hB m [] ors t N [] h O (by simp) fun sup _ => ⟨obl_ok (eo sup), ?_⟩
  have e' := e sup
  have k' := k sup
  revert e' k'
  generalize outK (drv ⟨prog, w.params⟩ B sup m 0 ors t N []).out = K
  intro e' k'
  show match (drv ⟨prog, w.params⟩ B sup m 0 ors t N []).out with | .ok v => _ | .call cd hd k => _ | .stack k => _ | .raise e => _ | .need _ => _ | .bad => _
  rw [e']
  exact ⟨(by intro z; cases z), fun h' O' => k' h' O'⟩
end
end Mine
namespace Mine
open PySem PySem.W PyProof.Rows
section
variable {prog : Program} {w : World} {A : Around} {g : Array GenState} {d : Drawn} {o : OsState} {c h : Heap} {B N : Objs} {R : Result → Shared → Prop} {t : Nat} {cd : Code} {T : Sem PySem.Fin}
theorem den_bi {id : String} {args : Args} {b : Builtin} (hb : entryFor table id = some b) : denote table (.builtin id args) = b args := by
  change (match entryFor table id with | some b => b args | none => _) = _
  rw [hb]
theorem c_run (hT : denote table cd = T) (k : wpAny (model prog w) (A.under cd) T (X.postC prog w A R) (X.postE R) ⟨h, g, d, t, o⟩) : codeAny (model prog w) A cd R ⟨h, g, d, t, o⟩ := by
  subst hT; exact X.x_code k
theorem c_again (hh : A.handled = none) (hB : ∀ q ∈ B, c.get? q.1 = some q.2) (O : Own1 c h N) (ors : List Nat) (cd' : (Nat → Addr) → Code) (hT : denote table cd = T)
    (e : ∀ sup, (drv ⟨prog, w.params⟩ B sup T 0 ors t N []).out = .ok (.again (cd' sup)))
    (eo : ∀ sup, (drv ⟨prog, w.params⟩ B sup T 0 ors t N []).obl.map (·.1) = (drv ⟨prog, w.params⟩ B sup T 0 ors t N []).obl.map (·.2))
    (hq : ∀ sup, (cd' sup).quiet = true)
    (k : ∀ sup h', Own1 c h' (drv ⟨prog, w.params⟩ B sup T 0 ors t N []).N → codeAny (model prog w) A (cd' sup) R ⟨h', g, d, (drv ⟨prog, w.params⟩ B sup T 0 ors t N []).t, o⟩) :
    codeAny (model prog w) A cd R ⟨h, g, d, t, o⟩ :=
  c_run hT (seg_ok hh hB O ors (fun sup => .again (cd' sup)) e eo fun sup h' O' => ⟨hq sup, k sup h' O'⟩)
theorem c_ret (hh : A.handled = none) (hB : ∀ q ∈ B, c.get? q.1 = some q.2) (O : Own1 c h N) (ors : List Nat) (v : (Nat → Addr) → Flow) (hT : denote table cd = T)
    (e : ∀ sup, (drv ⟨prog, w.params⟩ B sup T 0 ors t N []).out = .ok (.done (v sup)))
    (eo : ∀ sup, (drv ⟨prog, w.params⟩ B sup T 0 ors t N []).obl.map (·.1) = (drv ⟨prog, w.params⟩ B sup T 0 ors t N []).obl.map (·.2))
    (k : ∀ sup h', Own1 c h' (drv ⟨prog, w.params⟩ B sup T 0 ors t N []).N → R (.ok (v sup)) ⟨h', g, d, (drv ⟨prog, w.params⟩ B sup T 0 ors t N []).t, o⟩) :
    codeAny (model prog w) A cd R ⟨h, g, d, t, o⟩ :=
  c_run hT (seg_ok hh hB O ors (fun sup => .done (v sup)) e eo fun sup h' O' => k sup h' O')
theorem c_call (hh : A.handled = none) (hB : ∀ q ∈ B, c.get? q.1 = some q.2) (O : Own1 c h N) (ors : List Nat) (cd' : (Nat → Addr) → Code) (hT : denote table cd = T)
    (e : ∀ sup, (drv ⟨prog, w.params⟩ B sup T 0 ors t N []).out = .call (cd' sup) none (outK (drv ⟨prog, w.params⟩ B sup T 0 ors t N []).out))
    (eo : ∀ sup, (drv ⟨prog, w.params⟩ B sup T 0 ors t N []).obl.map (·.1) = (drv ⟨prog, w.params⟩ B sup T 0 ors t N []).obl.map (·.2))
    (k : ∀ sup h', Own1 c h' (drv ⟨prog, w.params⟩ B sup T 0 ors t N []).N →
      codeAny (model prog w) (A.under cd) (cd' sup) (fun x s' => wpAny (model prog w) (A.under cd) (outK (drv ⟨prog, w.params⟩ B sup T 0 ors t N []).out x) (X.postC prog w A R) (X.postE R) s') ⟨h', g, d, (drv ⟨prog, w.params⟩ B sup T 0 ors t N []).t, o⟩) :
    codeAny (model prog w) A cd R ⟨h, g, d, t, o⟩ := c_run hT (seg_call hh hB O ors cd' e eo k)
end
end Mine
namespace Mine
open PySem PySem.W PyProof.Rows
/-- entries of a names' dict, their hashes and tokens untold -/
noncomputable def entsOf (hs : Nat → Int) (tk : Nat → Nat) : List (Str × Value) → Nat → List DictEntry
  | [], _ => []
  | (x, v) :: r, i => ⟨hs i, .str x (tk i), v⟩ :: entsOf hs tk r (i + 1)
noncomputable def bodyOf : Stmt → List Stmt
  | .FunctionDef _ _ b _ _ _ _ _ _ _ => b
  | _ => []
noncomputable def scopeOf : Stmt → Scope
  | .FunctionDef _ _ _ _ _ _ sc _ _ _ => sc
  | _ => ⟨.function, [], false, false, []⟩
noncomputable def clsRun (env : Env) : Stmt → Sem Value
  | .ClassDef name _ _ body decs _ scope _ bind statics pos => buildClass name (qualnameIn env name bind) [.type "object"] [] body scope statics (firstLineOf decs pos) env pos none
  | _ => .unsupported ""
noncomputable def clsStm : Stmt := (bodyOf (stm 1)).headD (.Pass ⟨0, 0, 0, 0⟩)
noncomputable def envK (L C : Addr) : Env := newEnv (scopeOf (stm 1)) L 3 [("mycmp", C)] "cmp_to_key.<locals>." (some 21) (.ref 20) none builtinsNs
noncomputable def glob2 (file : Str) (t1 t2 : Nat) : List (Str × Value) := ([("__name__", .str "law_oy0083_01" t1), ("__doc__", .none), ("__package__", .none), ("__loader__", .builtin "__main__.__loader__#opaque"), ("__spec__", .none), ("__annotations__", .ref 6), ("__builtins__", .ref 4), ("__file__", .str file t2), ("__cached__", .none)] : List (Str × Value)) ++
  ([("cmp_to_key", .ref 21), ("_initial_missing", .ref 22), ("reduce", .ref 30), ("Error", .ref 40), ("error_reply", .ref 53), ("parse257", .ref 62), ("heappush", .ref 69), ("heappop", .ref 76), ("heapify", .ref 83), ("_siftdown", .ref 90), ("_siftup", .ref 97), ("_law_numbers", .ref 104), ("_law_sum", .ref 109), ("_law_places", .ref 116), ("_law_reply", .ref 123), ("_law_step", .ref 130), ("_law_read", .ref 137), ("_law_product", .ref 142), ("_law_compare", .ref 149), ("_law_popped", .ref 154), ("_law_in_order", .ref 159), ("_law_melted", .ref 164), ("_law_as_worth", .ref 169), ("_law_all_sums", .ref 174), ("law", .ref 179)] : List (Str × Value))
end Mine
namespace Mine
open PySem PySem.W PyProof.Rows
noncomputable def clsBody : List Stmt := match clsStm with | .ClassDef _ _ _ body _ _ _ _ _ _ _ => body | _ => []
noncomputable def clsScope : Scope := match clsStm with | .ClassDef _ _ _ _ _ _ sc _ _ _ _ => sc | _ => ⟨.function, [], false, false, []⟩
noncomputable def clsStatics : List Str := match clsStm with | .ClassDef _ _ _ _ _ _ _ _ _ st _ => st | _ => []
noncomputable def clsPos : Pos := match clsStm with | .ClassDef _ _ _ _ _ _ _ _ _ _ p => p | _ => ⟨0, 0, 0, 0⟩
theorem cls_is (env : Env) : clsRun env clsStm = buildClass "K" (qualnameIn env "K" "K") [.type "object"] [] clsBody clsScope clsStatics 4 env clsPos none := by kernel_rfl
section
variable {prog : Program} {w : World} {A : Around} {g : Array GenState} {d : Drawn} {o : OsState} {c h : Heap} {Q : Value → Shared → Prop} {E : Value → Shared → Prop} {t : Nat} {α β : Type} {B N : Objs}
theorem b_ok {Q : β → Shared → Prop} {m : Sem α} {f : α → Sem β} (hh : A.handled = none) (hB : ∀ q ∈ B, c.get? q.1 = some q.2) (O : Own1 c h N) (ors : List Nat) (v : (Nat → Addr) → α) (N' : (Nat → Addr) → Objs) (t' : Nat)
    (e : ∀ sup, (drv ⟨prog, w.params⟩ B sup m 0 ors t N []).out = .ok (v sup))
    (eo : ∀ sup, (drv ⟨prog, w.params⟩ B sup m 0 ors t N []).obl.map (·.1) = (drv ⟨prog, w.params⟩ B sup m 0 ors t N []).obl.map (·.2))
    (eN : ∀ sup, (drv ⟨prog, w.params⟩ B sup m 0 ors t N []).N = N' sup) (et : ∀ sup, (drv ⟨prog, w.params⟩ B sup m 0 ors t N []).t = t')
    (k : ∀ sup h', Own1 c h' (N' sup) → wpAny (model prog w) A (f (v sup)) Q E ⟨h', g, d, t', o⟩) : wpAny (model prog w) A (m >>= f) Q E ⟨h, g, d, t, o⟩ :=
  wpAny_bind (seg_ok hh hB O ors v e eo fun sup h' O' => by rw [et sup]; rw [eN sup] at O'; exact k sup h' O')
theorem b_same {Q : β → Shared → Prop} {m : Sem α} {f : α → Sem β} (hh : A.handled = none) (hB : ∀ q ∈ B, c.get? q.1 = some q.2) (O : Own1 c h N) (ors : List Nat) (v : α)
    (e : ∀ sup, (drv ⟨prog, w.params⟩ B sup m 0 ors t N []).out = .ok v)
    (eo : ∀ sup, (drv ⟨prog, w.params⟩ B sup m 0 ors t N []).obl.map (·.1) = (drv ⟨prog, w.params⟩ B sup m 0 ors t N []).obl.map (·.2))
    (eN : ∀ sup, (drv ⟨prog, w.params⟩ B sup m 0 ors t N []).N = N) (et : ∀ sup, (drv ⟨prog, w.params⟩ B sup m 0 ors t N []).t = t)
    (k : ∀ h', Own1 c h' N → wpAny (model prog w) A (f v) Q E ⟨h', g, d, t, o⟩) : wpAny (model prog w) A (m >>= f) Q E ⟨h, g, d, t, o⟩ :=
  b_ok hh hB O ors (fun _ => v) (fun _ => N) t e eo eN et fun _ h' O' => k h' O'
theorem b_tok {Q : β → Shared → Prop} {m : Sem α} {f : α → Sem β} (hh : A.handled = none) (hB : ∀ q ∈ B, c.get? q.1 = some q.2) (O : Own1 c h N) (ors : List Nat) (v : α) (t' : Nat)
    (e : ∀ sup, (drv ⟨prog, w.params⟩ B sup m 0 ors t N []).out = .ok v)
    (eo : ∀ sup, (drv ⟨prog, w.params⟩ B sup m 0 ors t N []).obl.map (·.1) = (drv ⟨prog, w.params⟩ B sup m 0 ors t N []).obl.map (·.2))
    (eN : ∀ sup, (drv ⟨prog, w.params⟩ B sup m 0 ors t N []).N = N) (et : ∀ sup, (drv ⟨prog, w.params⟩ B sup m 0 ors t N []).t = t')
    (k : ∀ h', Own1 c h' N → wpAny (model prog w) A (f v) Q E ⟨h', g, d, t', o⟩) : wpAny (model prog w) A (m >>= f) Q E ⟨h, g, d, t, o⟩ :=
  b_ok hh hB O ors (fun _ => v) (fun _ => N) t' e eo eN et fun _ h' O' => k h' O'
theorem s_fin {Q : α → Shared → Prop} {m : Sem α} (hh : A.handled = none) (hB : ∀ q ∈ B, c.get? q.1 = some q.2) (O : Own1 c h N) (ors : List Nat) (v : α) (N' : Objs) (t' : Nat)
    (e : ∀ sup, (drv ⟨prog, w.params⟩ B sup m 0 ors t N []).out = .ok v)
    (eo : ∀ sup, (drv ⟨prog, w.params⟩ B sup m 0 ors t N []).obl.map (·.1) = (drv ⟨prog, w.params⟩ B sup m 0 ors t N []).obl.map (·.2))
    (eN : ∀ sup, (drv ⟨prog, w.params⟩ B sup m 0 ors t N []).N = N') (et : ∀ sup, (drv ⟨prog, w.params⟩ B sup m 0 ors t N []).t = t')
    (k : ∀ h', Own1 c h' N' → Q v ⟨h', g, d, t', o⟩) : wpAny (model prog w) A m Q E ⟨h, g, d, t, o⟩ :=
  seg_ok hh hB O ors (fun _ => v) e eo fun sup h' O' => by rw [et sup]; rw [eN sup] at O'; exact k h' O'
theorem b_call {Q : β → Shared → Prop} {m : Sem α} {f : α → Sem β} (hh : A.handled = none) (hB : ∀ q ∈ B, c.get? q.1 = some q.2) (O : Own1 c h N) (ors : List Nat) (cd : (Nat → Addr) → Code)
    (e : ∀ sup, (drv ⟨prog, w.params⟩ B sup m 0 ors t N []).out = .call (cd sup) none (outK (drv ⟨prog, w.params⟩ B sup m 0 ors t N []).out))
    (eo : ∀ sup, (drv ⟨prog, w.params⟩ B sup m 0 ors t N []).obl.map (·.1) = (drv ⟨prog, w.params⟩ B sup m 0 ors t N []).obl.map (·.2))
    (k : ∀ sup h', Own1 c h' (drv ⟨prog, w.params⟩ B sup m 0 ors t N []).N →
      codeAny (model prog w) A (cd sup) (fun x s' => wpAny (model prog w) A (outK (drv ⟨prog, w.params⟩ B sup m 0 ors t N []).out x) (fun v s => wpAny (model prog w) A (f v) Q E s) E s') ⟨h', g, d, (drv ⟨prog, w.params⟩ B sup m 0 ors t N []).t, o⟩) :
    wpAny (model prog w) A (m >>= f) Q E ⟨h, g, d, t, o⟩ := wpAny_bind (seg_call hh hB O ors cd e eo k)
theorem w_no {Q : α → Shared → Prop} {s : Shared} {c : Prop} [Decidable c] {x y : Sem α} (hc : ¬ c) (h : wpAny (model prog w) A y Q E s) : wpAny (model prog w) A (if c then x else y) Q E s := by rw [if_neg hc]; exact h
theorem en_prep : entryFor table "type.__prepare__" = some Builtin.«type.__prepare__» := entryFor_of_tree (by kernel_rfl)
noncomputable def B2 (hs : Nat → Int) (tk : Nat → Nat) (file : Str) (t1 t2 : Nat) (v : Nat → Nat) : Objs := [(3, { cls := .type "dict", data := .dict (entsOf hs tk (glob2 file t1 t2) 0).toArray 34 }), (4, { cls := .type "module", dict := some 0, data := .plain }),
  (20, { cls := .type "code", data := .fields #[.str "cmp_to_key" (v 0), .str "cmp_to_key" (v 1), .str file (v 2), .int 2 0, .int 1 0, .int 0 0, .int 0 0, .int 3 0, .ref 15, .bool true, .int (v 3) 0, .ref 16, .none, .ref 17, .ref 18, .ref 19, .int (v 4) 0, .int 2 0, .str file (v 5)] }),
  (2, { cls := .none, data := .dict (entsOf hs tk [("type.__subclasses__.Exception.0", .int 40 0), ("type.__subclasses__.Exception.n", .int 1 0)] 100).toArray 2 })]
noncomputable def NK (l cc : Nat) (f : Obj) (fo : Obj) : Objs := [(l + 100, fo), (cc + 100, f), (16, { cls := .none, data := .fields #[] })]
theorem Own1.pick {N2 : Objs} (O : Own1 c h N) (idx : List Nat) (hn : idx.Nodup) (e : idx.map (fun i => N[i]?) = N2.map some) : Own1 c h N2 := by
  have mem : ∀ (idx : List Nat) (N2 : Objs), idx.map (fun i => N[i]?) = N2.map some → ∀ q ∈ N2, ∃ i ∈ idx, N[i]? = some q := by
    intro idx N2 e q hq
    have : some q ∈ idx.map (fun i => N[i]?) := by rw [e]; exact List.mem_map_of_mem hq
    obtain ⟨i, hi, ei⟩ := List.mem_map.mp this
    exact ⟨i, hi, ei⟩
  refine ⟨O.up, fun q hq => ?_, fun q hq => ?_, ?_, O.sz⟩
  · obtain ⟨i, _, ei⟩ := mem idx N2 e q hq; exact O.get i ei
  · obtain ⟨i, _, ei⟩ := mem idx N2 e q hq; exact O.nc q (List.mem_of_getElem? ei)
  · have hnd := O.nd
    clear O
    revert N2
    induction idx with
    | nil => intro N2 e; cases N2 with | nil => simp | cons => simp at e
    | cons i is ih =>
      intro N2 e
      cases N2 with
      | nil => simp
      | cons q N2 =>
        rw [List.map_cons, List.map_cons] at e
        obtain ⟨e1, e2⟩ := List.cons.inj e
        rw [List.nodup_cons] at hn
        rw [List.map_cons, List.nodup_cons]
        refine ⟨fun hm => ?_, ih hn.2 e2⟩
        obtain ⟨q', hq', eq'⟩ := List.mem_map.mp hm
        obtain ⟨i', hi', ei'⟩ := mem is N2 e2 q' hq'
        have h1 : (N.map (·.1))[i]? = some q.1 := by rw [List.getElem?_map, e1]; rfl
        have h2 : (N.map (·.1))[i']? = some q.1 := by rw [List.getElem?_map, ei']; simp [eq']
        obtain ⟨l1, _⟩ := List.getElem?_eq_some_iff.mp h1
        exact hn.1 (((List.getElem?_inj l1 hnd).mp (h1.trans h2.symm)) ▸ hi')
noncomputable def fdK (i : Nat) (clo : List (Str × Addr)) (code ct : Value) (t1 : Nat) : FuncData := match clsBody[i]? with
  | some (.FunctionDef name a b _ _ _ sc _ _ _) => { name, qualname := "cmp_to_key.<locals>.K." ++ name, params := a, body := .stmts b, scope := sc, globals := 3, closure := clo, closureTuple := ct, code, builtins := 0, defaults := .none, kwdefaults := .none, annotations := none, pyModule := .str "law_oy0083_01" t1, doc := .none }
  | _ => { name := "", qualname := "", params := ⟨[], [], none, [], [], none, []⟩, body := .stmts [], scope := ⟨.function, [], false, false, []⟩, globals := 3, closure := clo, closureTuple := ct, code, defaults := .none, kwdefaults := .none }
noncomputable def fnK (i : Nat) (clo : List (Str × Addr)) (code : Addr) (ct : Value) (t1 : Nat) : Obj := { cls := .type "function", data := .func (fdK i clo (.ref code) ct t1) }
noncomputable def entK (p : Params) (n : Str) (tk : Nat) (v : Value) : DictEntry := ⟨reduceHash (p.strHash n.cps), .str n tk, v⟩
noncomputable def nsE (p : Params) (t : Nat) (b : Nat → Nat) (st : Nat) : Array DictEntry := #[entK p "__module__" (b 208) (.str "cpy313.functools" (b 213)), entK p "__qualname__" (b 210) (.str "cmp_to_key.<locals>.K" (b 209)), entK p "__firstlineno__" (b 212) (.int 4 (b 211)), entK p "__slots__" (b 216) (.ref (b 0 + 100)),
  entK p "__init__" (b 224) (.ref (b 7 + 100)), entK p "__lt__" (b 233) (.ref (b 15 + 100)), entK p "__gt__" (b 242) (.ref (b 23 + 100)), entK p "__eq__" (b 251) (.ref (b 31 + 100)), entK p "__le__" (b 260) (.ref (b 39 + 100)), entK p "__ge__" (b 269) (.ref (b 47 + 100)), entK p "__hash__" (b 270) .none, entK p "__static_attributes__" (b 272) (.ref (st + 100))]
noncomputable def nsK (p : Params) (t : Nat) (b : Nat → Nat) (st : Nat) : Obj := { cls := .type "dict", data := .dict (nsE p t b st) 12 }
noncomputable def codeK (name qn file : Str) (line : Int) (t : Nat) (x : Nat) (a1 a2 a3 a4 a5 : Addr) : Obj := { cls := .type "code", data := .fields #[.str name t, .str qn (t + 1), .str file (t + 2), .int line 0, .int 2 0, .int 0 0, .int 0 0, .int 19 0, .ref a1, .bool true, .int x 0, .ref a2, .none, .ref a3, .ref a4, .ref a5, .int (t + (if name == "__init__" then 5 else 6)) 0, .int line 0, .str file (t + (if name == "__init__" then 6 else 7))] }
noncomputable def codeC (file : Str) (t x : Nat) (a1 tb : Addr) : Obj := { cls := .type "code", data := .fields #[.str "K" (t + 2), .str "cmp_to_key.<locals>.K" (t + 3), .str file (t + 4), .int 4 0, .int 0 0, .int 0 0, .int 0 0, .int 0 0, .ref a1, .bool true, .int x 0, .ref tb, .none, .none, .none, .none, .int (t + 6) 0, .int 4 0, .str file (t + 7)] }
noncomputable def tabC (b : Nat → Nat) : Obj := { cls := .none, data := .fields #[.int 8 0, .int 8 0, .ref (b 6 + 100), .int 11 0, .int 8 0, .ref (b 14 + 100), .int 14 0, .int 8 0, .ref (b 22 + 100), .int 17 0, .int 8 0, .ref (b 30 + 100), .int 20 0, .int 8 0, .ref (b 38 + 100), .int 23 0, .int 8 0, .ref (b 46 + 100)] }
noncomputable def NM (p : Params) (t t1 x : Nat) (file : Str) (l : Nat) (fo : Obj) (kc : Nat → Nat) (cc : Nat) (f : Obj) (T ns : Nat) (b : Nat → Nat) (st : Nat) : Objs := [(cc + 100, f), (T + 100, { cls := .type "tuple", data := .seq #[.type "object"] }), (ns + 100, nsK p t b st), (b 0 + 100, { cls := .type "list", data := .seq #[.str "obj" (b 215)] }),
  (b 7 + 100, fnK 2 [] (b 6 + 100) .none t1), (b 15 + 100, fnK 3 [("mycmp", cc + 100)] (b 14 + 100) (.ref (b 8 + 100)) t1), (b 23 + 100, fnK 4 [("mycmp", cc + 100)] (b 22 + 100) (.ref (b 16 + 100)) t1), (b 31 + 100, fnK 5 [("mycmp", cc + 100)] (b 30 + 100) (.ref (b 24 + 100)) t1),
  (b 39 + 100, fnK 6 [("mycmp", cc + 100)] (b 38 + 100) (.ref (b 32 + 100)) t1), (b 47 + 100, fnK 7 [("mycmp", cc + 100)] (b 46 + 100) (.ref (b 40 + 100)) t1), (st + 100, { cls := .type "tuple", data := .seq #[.str "obj" (b 271)] }),
  (b 6 + 100, codeK "__init__" "cmp_to_key.<locals>.K.__init__" file 8 (b 99 + 17) x (b 1 + 100) (b 2 + 100) (b 3 + 100) (b 4 + 100) (b 5 + 100)), (b 14 + 100, codeK "__lt__" "cmp_to_key.<locals>.K.__lt__" file 11 (b 99 + 25) x (b 9 + 100) (b 10 + 100) (b 11 + 100) (b 12 + 100) (b 13 + 100)),
  (16, { cls := .none, data := .fields #[.int 4 0, .int 4 0, .ref (kc 2 + 100)] }), (kc 2 + 100, codeC file (b 99) x (kc 0 + 100) (kc 1 + 100)), (kc 1 + 100, tabC b), (b 22 + 100, codeK "__gt__" "cmp_to_key.<locals>.K.__gt__" file 14 (b 99 + 34) x (b 17 + 100) (b 18 + 100) (b 19 + 100) (b 20 + 100) (b 21 + 100)), (b 30 + 100, codeK "__eq__" "cmp_to_key.<locals>.K.__eq__" file 17 (b 99 + 43) x (b 25 + 100) (b 26 + 100) (b 27 + 100) (b 28 + 100) (b 29 + 100)), (b 38 + 100, codeK "__le__" "cmp_to_key.<locals>.K.__le__" file 20 (b 99 + 52) x (b 33 + 100) (b 34 + 100) (b 35 + 100) (b 36 + 100) (b 37 + 100)), (b 46 + 100, codeK "__ge__" "cmp_to_key.<locals>.K.__ge__" file 23 (b 99 + 61) x (b 41 + 100) (b 42 + 100) (b 43 + 100) (b 44 + 100) (b 45 + 100)), (l + 100, fo)]
theorem at_toks {c : Code} {R : Result → Shared → Prop} {t t' : Nat} (e : t = t') (k : codeAny (model prog w) A c R ⟨h, g, d, t', o⟩) : codeAny (model prog w) A c R ⟨h, g, d, t, o⟩ := e ▸ k
/-- a code's end: a value, own objects, and what holds by them alone -/
noncomputable def EndR (c : Heap) (g : Array GenState) (d : Drawn) (o : OsState) (Q : Value → Shared → Prop) (x : Result) (s' : Shared) : Prop := ∃ v t' N', x = .ok (.ret v) ∧ s' = ⟨s'.heap, g, d, t', o⟩ ∧ Own1 c s'.heap N' ∧ ∀ h', Own1 c h' N' → Q v ⟨h', g, d, t', o⟩
noncomputable def cenvK (ns cc code frame : Addr) : Env := { scope := clsScope, locals := ns, globals := 3, cells := [("mycmp", cc)], qual := "cmp_to_key.<locals>.K.", code := .ref code, frame := some frame, builtins := 0 }
noncomputable def NK1 (l cc : Nat) (f : Obj) (fo : Obj) (a b e : Addr) : Objs := NK l cc f fo ++ [(a, { cls := .type "tuple", data := .seq #[.type "object"] }), (b, { cls := .type "builtin_function_or_method", data := .fields #[.builtin "type.__prepare__", .type "type"] }), (e, { cls := .type "dict", data := .dict #[] 0 })]
set_option maxRecDepth 20000 in
set_option maxHeartbeats 2000000 in
theorem cls1 {hs : Nat → Int} {tk : Nat → Nat} {file : Str} {t1 t2 : Nat} {v : Nat → Nat} {l cc : Nat} {f : Obj} {fo : Obj} (hh : A.handled = none) (hB : ∀ q ∈ B2 hs tk file t1 t2 v, c.get? q.1 = some q.2) (O : Own1 c h (NK l cc f fo)) (hlim : c.NoLimit) (hdp : A.depth < recursionLimit)
    (hk : ∀ kc T ns b st h', Own1 c h' (NM w.params t t1 (v 3) file l fo kc cc f T ns b st) → codeAny (model prog w) A (.call (.type "type") ⟨[.str "K" t, .ref (T + 100), .ref (ns + 100)], []⟩) (EndR c g d o Q) ⟨h', g, d, t + 73, o⟩) :
    wpAny (model prog w) A (clsRun (envK (l + 100) (cc + 100)) clsStm) Q E ⟨h, g, d, t, o⟩ := by
  rw [cls_is]
  unfold buildClass
  refine b_ok hh hB O [] (fun sup => .ref (sup 0 + 100)) (fun sup => NK l cc f fo ++ [(sup 0 + 100, { cls := .type "tuple", data := .seq #[.type "object"] })]) t (fun sup => by kernel_rfl) (fun sup => by kernel_rfl) (fun sup => by kernel_rfl) (fun sup => by kernel_rfl) fun sup1 h1 O1 => ?_
  refine b_same hh hB O1 [] ⟨[.type "object"], false⟩ (fun sup => by kernel_rfl) (fun sup => by kernel_rfl) (fun sup => by kernel_rfl) (fun sup => by kernel_rfl) fun h2 O2 => ?_
  refine b_same hh hB O2 [] (.type "type") (fun sup => by kernel_rfl) (fun sup => by kernel_rfl) (fun sup => by kernel_rfl) (fun sup => by kernel_rfl) fun h3 O3 => ?_
  refine b_same hh hB O3 [] true (fun sup => by kernel_rfl) (fun sup => by kernel_rfl) (fun sup => by kernel_rfl) (fun sup => by kernel_rfl) fun h4 O4 => ?_
  refine b_same hh hB O4 [] (.type "type") (fun sup => by kernel_rfl) (fun sup => by kernel_rfl) (fun sup => by kernel_rfl) (fun sup => by kernel_rfl) fun h5 O5 => ?_
  refine b_tok hh hB O5 [] (.str "K" t) (t + 1) (fun sup => by kernel_rfl) (fun sup => by kernel_rfl) (fun sup => by kernel_rfl) (fun sup => by kernel_rfl) fun h6 O6 => ?_
  refine b_same hh hB O6 [] (.ref (sup1 0 + 100)) (fun sup => by kernel_rfl) (fun sup => by kernel_rfl) (fun sup => by kernel_rfl) (fun sup => by kernel_rfl) fun h7 O7 => ?_
  refine wpAny_holding ?_
  refine b_call hh hB O7 [] (fun sup => .call (.builtin "type.__getattribute__") ⟨[.type "type", .str "__prepare__" (t + 1)], []⟩) (fun sup => by kernel_rfl) (fun sup => by kernel_rfl) fun sup8 h8 O8 => ?_
  refine c_again hh hB O8 [] (fun sup => .builtin "type.__getattribute__" ⟨[.type "type", .str "__prepare__" (t + 1)], []⟩) rfl (fun sup => by kernel_rfl) (fun sup => by kernel_rfl) (fun sup => by kernel_rfl) fun sup9 h9 O9 => ?_
  refine c_call hh hB O9 [] (fun sup => .call (.builtin "classmethod_descriptor.__get__") ⟨[.builtin "type.__prepare__", .none, .type "type"], []⟩) (den_bi PySem.W.KF.entry_tga) (fun sup => by kernel_rfl) (fun sup => by kernel_rfl) fun sup10 h10 O10 => ?_
  refine c_again hh hB O10 [] (fun sup => .builtin "classmethod_descriptor.__get__" ⟨[.builtin "type.__prepare__", .none, .type "type"], []⟩) rfl (fun sup => by kernel_rfl) (fun sup => by kernel_rfl) (fun sup => by kernel_rfl) fun sup11 h11 O11 => ?_
  refine c_ret hh hB O11 [] (fun sup => .ret (.ref (sup 0 + 100))) (den_bi PySem.W.KFB.entry_get) (fun sup => by kernel_rfl) (fun sup => by kernel_rfl) fun sup12 h12 O12 => ?_
  refine seg_ok hh hB O12 [] (fun sup => .done (.ret (.ref (sup12 0 + 100)))) (fun sup => by kernel_rfl) (fun sup => by kernel_rfl) fun sup13 h13 O13 => ?_
  refine s_fin hh hB O13 [] (some (.ref (sup12 0 + 100))) (NK l cc f fo ++ [(sup1 0 + 100, { cls := .type "tuple", data := .seq #[.type "object"] }), (sup12 0 + 100, { cls := .type "builtin_function_or_method", data := .fields #[.builtin "type.__prepare__", .type "type"] })]) (t + 2) (fun sup => by kernel_rfl) (fun sup => by kernel_rfl) (fun sup => by kernel_rfl) (fun sup => by kernel_rfl) fun h14 O14 => ?_
  refine b_call hh hB O14 [] (fun sup => .call (.ref (sup12 0 + 100)) ⟨[.str "K" t, .ref (sup1 0 + 100)], []⟩) (fun sup => by kernel_rfl) (fun sup => by kernel_rfl) fun sup15 h15 O15 => ?_
  refine c_again hh hB O15 [4] (fun sup => .builtin "type.__prepare__" ⟨[.type "type", .str "K" t, .ref (sup1 0 + 100)], []⟩) rfl (fun sup => by kernel_rfl) (fun sup => by kernel_rfl) (fun sup => by kernel_rfl) fun sup16 h16 O16 => ?_
  refine c_ret hh hB O16 [] (fun sup => .ret (.ref (sup 0 + 100))) (den_bi en_prep) (fun sup => by kernel_rfl) (fun sup => by kernel_rfl) fun sup17 h17 O17 => ?_
  refine s_fin hh hB O17 [] (.ref (sup17 0 + 100)) (NK1 l cc f fo (sup1 0 + 100) (sup12 0 + 100) (sup17 0 + 100)) (t + 2) (fun sup => by kernel_rfl) (fun sup => by kernel_rfl) (fun sup => by kernel_rfl) (fun sup => by kernel_rfl) fun h18 O18 => ?_
  clear O17 O16 O15 O13 O12 O11 O10 O9 O8 O7 O6 O5 O4 O3 O2 O1 O
  refine b_same hh hB O18 [] () (fun sup => by kernel_rfl) (fun sup => by kernel_rfl) (fun sup => by kernel_rfl) (fun sup => by kernel_rfl) fun h19 O19 => ?_
  refine b_same hh hB O19 [5] (some (.builtin "dict.__getitem__")) (fun sup => by kernel_rfl) (fun sup => by kernel_rfl) (fun sup => by kernel_rfl) (fun sup => by kernel_rfl) fun h20 O20 => ?_
  refine w_no (by decide) ?_
  refine wpAny_holding ?_
  refine b_same hh hB O20 [] none (fun sup => by kernel_rfl) (fun sup => by kernel_rfl) (fun sup => by kernel_rfl) (fun sup => by kernel_rfl) fun h21 O21 => ?_
  refine b_same hh hB O21 [] none (fun sup => by kernel_rfl) (fun sup => by kernel_rfl) (fun sup => by kernel_rfl) (fun sup => by kernel_rfl) fun h22 O22 => ?_
  refine b_ok hh hB O22 [1002, 2, 2, 2, 2] (fun sup => .ref (sup 2 + 100)) _ (t + 8) (fun sup => by kernel_rfl) (fun sup => by kernel_rfl) (fun sup => rfl) (fun sup => by kernel_rfl) fun sup23 h23 O23 => ?_
  refine b_same hh hB O23 [1000, 1001] 0 (fun sup => by kernel_rfl) (fun sup => by kernel_rfl) (fun sup => by kernel_rfl) (fun sup => by kernel_rfl) fun h24 O24 => ?_
  refine b_ok hh hB O24 [1000] (fun sup => sup 0 + 100) _ (t + 8) (fun sup => by kernel_rfl) (fun sup => by kernel_rfl) (fun sup => rfl) (fun sup => by kernel_rfl) fun sup25 h25 O25 => ?_
  refine b_same hh hB O25 [] [("mycmp", cc + 100)] (fun sup => by kernel_rfl) (fun sup => by kernel_rfl) (fun sup => by kernel_rfl) (fun sup => by kernel_rfl) fun h26 O26 => ?_
  refine wpAny_holding ?_
  clear O25 O24 O23 O22 O21 O20 O19 O18
  refine wpAny_bind (wpAny_enterFrame (hlim.keeps O26.up) hdp ?_)
  refine seg_call hh hB O26 [5, 5, 1000, 5, 5, 5, 5, 5, 5, 5, 5, 5] (fun sup => .body clsBody (cenvK (sup17 0 + 100) (cc + 100) (sup23 2 + 100) (sup25 0 + 100))) (fun sup => by kernel_rfl) (fun sup => by kernel_rfl) fun sup27 h27 O27 => ?_
  refine c_ret hh hB O27 [5, 5, 5, 5, 5, 5, 8, 7, 7, 7, 7, 1000, 1001, 1000, 5, 5, 5, 8, 7, 7, 7, 7, 1000, 1001, 1000, 5, 5, 5, 8, 7, 7, 7, 7, 1000, 1001, 1000, 5, 5, 5, 8, 7, 7, 7, 7, 1000, 1001, 1000, 5, 5, 5, 8, 7, 7, 7, 7, 1000, 1001, 1000, 5, 5, 5, 8, 7, 7, 7, 7, 1000, 1001, 1000, 5, 5, 5, 5, 5, 5] (fun sup => .next) rfl (fun sup => by kernel_rfl) (fun sup => by kernel_rfl) fun sup28 h28 O28 => ?_
  refine seg_call hh hB O28 [5, 5, 5] (fun sup => .call (.type "type") ⟨[.str "K" t, .ref (sup1 0 + 100), .ref (sup17 0 + 100)], []⟩) (fun sup => by kernel_rfl) (fun sup => by kernel_rfl) fun sup29 h29 O29 => ?_
  have O30 : Own1 c h29 (NM w.params t t1 (v 3) file l fo sup23 cc f (sup1 0) (sup17 0) (fun i => if i = 99 then t else if 200 ≤ i then t + (i - 200) else sup28 i) (sup29 0)) := O29.pick [1, 3, 5, 10, 17, 25, 33, 41, 49, 57, 58, 16, 24, 2, 8, 7, 32, 40, 48, 56, 0] (by decide) (by kernel_rfl)
  refine at_toks (t' := t + 73) (by kernel_rfl) ?_
  refine codeAny_mono (hk _ _ _ _ _ _ O30) ?_
  rintro x s' ⟨v', t', N', rfl, hs', O', q⟩
  rw [hs']
  exact s_fin hh hB O' [] v' N' t' (fun sup => by kernel_rfl) (fun sup => by kernel_rfl) (fun sup => by kernel_rfl) (fun sup => by kernel_rfl) fun h' O'' => q h' O''
end
end Mine
namespace Mine
open PySem PySem.W PyProof.Rows
theorem en_tn : entryFor table "type.__new__" = some Builtin.«type.__new__» := entryFor_of_tree (by kernel_rfl)
noncomputable def nsE2 (p : Params) (t0 t : Nat) (b : Nat → Nat) (st mb : Nat) : Array DictEntry := #[entK p "__module__" (b 208) (.str "cpy313.functools" (b 213)), entK p "__firstlineno__" (b 212) (.int 4 (b 211)), entK p "__slots__" (b 216) (.ref (b 0 + 100)),
  entK p "__init__" (b 224) (.ref (b 7 + 100)), entK p "__lt__" (b 233) (.ref (b 15 + 100)), entK p "__gt__" (b 242) (.ref (b 23 + 100)), entK p "__eq__" (b 251) (.ref (b 31 + 100)), entK p "__le__" (b 260) (.ref (b 39 + 100)), entK p "__ge__" (b 269) (.ref (b 47 + 100)), entK p "__hash__" (b 270) .none, entK p "__static_attributes__" (b 272) (.ref (st + 100)),
  entK p "obj" (t + 1) (.ref (mb + 100)), entK p "__doc__" (t + 2) .none]
noncomputable def nsO (p : Params) (t0 t : Nat) (b : Nat → Nat) (st mb : Nat) : Obj := { cls := .type "dict", data := .dict (nsE2 p t0 t b st mb) 3 }
noncomputable def clsO (t0 : Nat) (b : Nat → Nat) (T nn C : Nat) : Obj := { cls := .type "type", slots := #[some (.ref (T + 100)), none, some (.str "K" t0), some (.str "cmp_to_key.<locals>.K" (b 209)), some (.builtin "object.__new__"), some (.bool false)], data := .cls { name := "K", bases := [.type "object"], mro := [.ref (C + 100), .type "object"], ns := nn + 100, qualname := "cmp_to_key.<locals>.K", hasDict := false, slotNames := ["obj"] } }
noncomputable def memO (t C : Nat) : Obj := { cls := .type "member_descriptor", data := .fields #[.str "obj" t, .ref (C + 100), .builtin "proto.slot", .builtin "proto.slot#set", .int 0 0] }
noncomputable def NC (p : Params) (t0 t1 x t : Nat) (file : Str) (l : Nat) (fo : Obj) (kc : Nat → Nat) (cc : Nat) (f : Obj) (T ns : Nat) (b : Nat → Nat) (st nn C mb : Nat) : Objs := NM p t0 t1 x file l fo kc cc f T ns b st ++ [(nn + 100, nsO p t0 t b st mb), (C + 100, clsO t0 b T nn C), (mb + 100, memO t C)]
theorem en_ois : entryFor table "object.__init_subclass__" = some Builtin.«object.__init_subclass__» := entryFor_of_tree (by kernel_rfl)
noncomputable def superO (so : Addr) (a b c : Value) : Addr × Obj := (so, { cls := .type "super", data := .fields #[a, b, c] })
section
variable {prog : Program} {w : World} {A : Around} {g : Array GenState} {d : Drawn} {o : OsState} {c h : Heap} {t : Nat}
theorem no_addr {a b : Nat} (hb : b < 100) : ¬ ((a + 100 == b) = true) := by
  intro e
  have := eq_of_beq e
  lia
theorem w_yes {α : Type} {Q : α → Shared → Prop} {E : Value → Shared → Prop} {s : Shared} {c : Prop} [Decidable c] {x y : Sem α} (hc : c) (h : wpAny (model prog w) A x Q E s) : wpAny (model prog w) A (if c then x else y) Q E s := by rw [if_pos hc]; exact h
theorem w_noB {α : Type} {Q : α → Shared → Prop} {E : Value → Shared → Prop} {s : Shared} {b : Bool} {x y : Sem α} (hb : b = false) (h : wpAny (model prog w) A y Q E s) : wpAny (model prog w) A (if b = true then x else y) Q E s := by rw [if_neg (by rw [hb]; decide)]; exact h
theorem w_yesB {α : Type} {Q : α → Shared → Prop} {E : Value → Shared → Prop} {s : Shared} {b : Bool} {x y : Sem α} (hb : b = true) (h : wpAny (model prog w) A x Q E s) : wpAny (model prog w) A (if b = true then x else y) Q E s := by rw [if_pos hb]; exact h
theorem iadd_list {S it : Addr} {items : Array Value} {n : Nat} {R : Result → Shared → Prop} (hS : h.get? S = some { cls := .type "list", data := .seq #[] 0 }) (ho : h.get? it = some { cls := .type "list", data := .seq items n }) (hz : items.size ≤ sizeLine)
    (k : R (.ok (.ret (.ref S))) ⟨h.update S (Obj.mapSeq (· ++ items)), g, d, t, o⟩) : codeAny (model prog w) A (.builtin "list.__iadd__" ⟨[.ref S, .ref it], []⟩) R ⟨h, g, d, t, o⟩ := by
  refine codeAny_builtin F.entry_list_iadd ?_
  rw [Around.under_plainId F.plain_list_iadd _]
  exact wpAny_extend_seq (s := ⟨h, g, d, t, o⟩) S it (.ref S) 0 (.inl rfl) hS ho rfl rfl k hz
theorem at_toks' {α : Type} {m : Sem α} {Q : α → Shared → Prop} {E : Value → Shared → Prop} {t t' : Nat} (e : t = t') (k : wpAny (model prog w) A m Q E ⟨h, g, d, t', o⟩) : wpAny (model prog w) A m Q E ⟨h, g, d, t, o⟩ := e ▸ k
set_option maxRecDepth 20000 in
set_option maxHeartbeats 2000000 in
theorem sup_call {R : Result → Shared → Prop} {B : Objs} {p : Params} {t0 t1 x tt : Nat} {file : Str} {l : Nat} {fo : Obj} {kc : Nat → Nat} {cc : Nat} {f : Obj} {T ns : Nat} {b : Nat → Nat} {st nn C mb : Nat} (hh : A.handled = none) (hB : ∀ q ∈ B, c.get? q.1 = some q.2) (O : Own1 c h (NC p t0 t1 x tt file l fo kc cc f T ns b st nn C mb))
   (k : ∀ so h', Own1 c h' (NC p t0 t1 x tt file l fo kc cc f T ns b st nn C mb ++ [superO (so + 100) (.ref (C + 100)) (.ref (C + 100)) (.ref (C + 100))]) → R (.ok (.ret (.ref (so + 100)))) ⟨h', g, d, t, o⟩) :
    codeAny (model prog w) A (.call (.type "super") ⟨[.ref (C + 100), .ref (C + 100)], []⟩) R ⟨h, g, d, t, o⟩ := by
  refine c_again hh hB O [] (fun sup => .builtin "type.__call__" ⟨[.type "super", .ref (C + 100), .ref (C + 100)], []⟩) rfl (fun sup => by kernel_rfl) (fun sup => by kernel_rfl) (fun sup => by kernel_rfl) fun sup1 h1 O1 => ?_
  refine c_call hh hB O1 [22] (fun sup => .call (.builtin "super.__new__") ⟨[.type "super", .ref (C + 100), .ref (C + 100)], []⟩) (den_bi PyProof.Rows.entry_type_call) (fun sup => by kernel_rfl) (fun sup => by kernel_rfl) fun sup2 h2 O2 => ?_
  refine c_again hh hB O2 [] (fun sup => .builtin "super.__new__" ⟨[.type "super", .ref (C + 100), .ref (C + 100)], []⟩) rfl (fun sup => by kernel_rfl) (fun sup => by kernel_rfl) (fun sup => by kernel_rfl) fun sup3 h3 O3 => ?_
  refine c_ret hh hB O3 [] (fun sup => .ret (.ref (sup 0 + 100))) (den_bi PySem.F.ks_entry_super_new) (fun sup => by kernel_rfl) (fun sup => by kernel_rfl) fun sup4 h4 O4 => ?_
  have O5 : Own1 c h4 (NC p t0 t1 x tt file l fo kc cc f T ns b st nn C mb ++ [superO (sup4 0 + 100) .none .none .none]) := O4.pick [0, 1, 2, 3, 4, 5, 6, 7, 8, 9, 10, 11, 12, 13, 14, 15, 16, 17, 18, 19, 20, 21, 22, 23, 24] (by decide) (by kernel_rfl)
  refine at_toks' (show _ = t by kernel_rfl) ?_
  clear O1 O2 O3 O4
  refine seg_call hh hB O5 [24, 24] (fun sup => .call (.builtin "super.__init__") ⟨[.ref (sup4 0 + 100), .ref (C + 100), .ref (C + 100)], []⟩) (fun sup => by kernel_rfl) (fun sup => by kernel_rfl) fun sup6 h6 O6 => ?_
  have O7 := O6.pick (N2 := NC p t0 t1 x tt file l fo kc cc f T ns b st nn C mb ++ [superO (sup4 0 + 100) .none .none .none]) [0, 1, 2, 3, 4, 5, 6, 7, 8, 9, 10, 11, 12, 13, 14, 15, 16, 17, 18, 19, 20, 21, 22, 23, 24] (by decide) (by kernel_rfl)
  refine at_toks (show _ = t by kernel_rfl) ?_
  refine c_again hh hB O7 [24] (fun sup => .builtin "super.__init__" ⟨[.ref (sup4 0 + 100), .ref (C + 100), .ref (C + 100)], []⟩) rfl (fun sup => by kernel_rfl) (fun sup => by kernel_rfl) (fun sup => by kernel_rfl) fun sup8 h8 O8 => ?_
  have O9 := O8.pick (N2 := NC p t0 t1 x tt file l fo kc cc f T ns b st nn C mb ++ [superO (sup4 0 + 100) .none .none .none]) [0, 1, 2, 3, 4, 5, 6, 7, 8, 9, 10, 11, 12, 13, 14, 15, 16, 17, 18, 19, 20, 21, 22, 23, 24] (by decide) (by kernel_rfl)
  refine at_toks (show _ = t by kernel_rfl) ?_
  clear O6 O7 O8
  revert O9 
  generalize sup4 0 = so
  intro O9
  refine c_run (den_bi PySem.F.ks_entry_super_init) ?_
  unfold Builtin.«super.__init__»
  refine b_same hh hB O9 [] () (fun sup => by kernel_rfl) (fun sup => by kernel_rfl) (fun sup => by kernel_rfl) (fun sup => by kernel_rfl) fun h10 O10 => ?_
  refine b_same hh hB O10 [] (.ref (C + 100), .ref (C + 100)) (fun sup => by kernel_rfl) (fun sup => by kernel_rfl) (fun sup => by kernel_rfl) (fun sup => by kernel_rfl) fun h11 O11 => ?_
  refine b_same hh hB O11 [22] true (fun sup => by kernel_rfl) (fun sup => by kernel_rfl) (fun sup => by kernel_rfl) (fun sup => by kernel_rfl) fun h12 O12 => ?_
  refine w_noB (by kernel_rfl) ?_
  refine w_noB (by kernel_rfl) ?_
  refine wpAny_bind ?_
  refine b_same hh hB O12 [22] true (fun sup => by kernel_rfl) (fun sup => by kernel_rfl) (fun sup => by kernel_rfl) (fun sup => by kernel_rfl) fun h13 O13 => ?_
  refine w_yesB rfl ?_
  refine b_same hh hB O13 [22] ([Value.ref (C + 100), .type "object"].contains (.ref (C + 100))) (fun sup => by kernel_rfl) (fun sup => by kernel_rfl) (fun sup => by kernel_rfl) (fun sup => by kernel_rfl) fun h14 O14 => ?_
  refine w_yesB (by simp) ?_
  refine wpAny_pure ?_
  refine s_fin hh hB O14 [24, 24, 24, 24, 24, 24] (.done (.ret .none)) (NC p t0 t1 x tt file l fo kc cc f T ns b st nn C mb ++ [superO (so + 100) (.ref (C + 100)) (.ref (C + 100)) (.ref (C + 100))]) t (fun sup => by kernel_rfl) (fun sup => by kernel_rfl) (fun sup => by kernel_rfl) (fun sup => by kernel_rfl) fun h15 O15 => ?_
  refine s_fin hh hB O15 [] (.done (.ret (.ref (so + 100)))) (NC p t0 t1 x tt file l fo kc cc f T ns b st nn C mb ++ [superO (so + 100) (.ref (C + 100)) (.ref (C + 100)) (.ref (C + 100))]) t (fun sup => by kernel_rfl) (fun sup => by kernel_rfl) (fun sup => by kernel_rfl) (fun sup => by kernel_rfl) fun h16 O16 => ?_
  exact k so h16 O16
set_option maxRecDepth 20000 in
set_option maxHeartbeats 2000000 in
theorem supga_call {R : Result → Shared → Prop} {hs : Nat → Int} {tkk : Nat → Nat} {u1 u2 : Nat} {v : Nat → Nat} {file : Str} {p : Params} {t0 t1 x tt tk so : Nat} {l : Nat} {fo : Obj} {kc : Nat → Nat} {cc : Nat} {f : Obj} {T ns : Nat} {b : Nat → Nat} {st nn C mb : Nat} (hh : A.handled = none) (hB : ∀ q ∈ B2 hs tkk file u1 u2 v, c.get? q.1 = some q.2) (O : Own1 c h (NC p t0 t1 x tt file l fo kc cc f T ns b st nn C mb ++ [superO (so + 100) (.ref (C + 100)) (.ref (C + 100)) (.ref (C + 100))]))
   (k : ∀ bo h', Own1 c h' (NC p t0 t1 x tt file l fo kc cc f T ns b st nn C mb ++ [(bo + 100, { cls := .type "builtin_function_or_method", data := .fields #[.builtin "object.__init_subclass__", .ref (C + 100)] })]) → R (.ok (.ret (.ref (bo + 100)))) ⟨h', g, d, t, o⟩) :
    codeAny (model prog w) A (.call (.builtin "super.__getattribute__") ⟨[.ref (so + 100), .str "__init_subclass__" tk], []⟩) R ⟨h, g, d, t, o⟩ := by
  refine c_again hh hB O [24] (fun sup => .builtin "super.__getattribute__" ⟨[.ref (so + 100), .str "__init_subclass__" tk], []⟩) rfl (fun sup => by kernel_rfl) (fun sup => by kernel_rfl) (fun sup => by kernel_rfl) fun sup1 h1 O1 => ?_
  have O2 := O1.pick (N2 := NC p t0 t1 x tt file l fo kc cc f T ns b st nn C mb ++ [superO (so + 100) (.ref (C + 100)) (.ref (C + 100)) (.ref (C + 100))]) [0, 1, 2, 3, 4, 5, 6, 7, 8, 9, 10, 11, 12, 13, 14, 15, 16, 17, 18, 19, 20, 21, 22, 23, 24] (by decide) (by kernel_rfl)
  refine at_toks (show _ = t by kernel_rfl) ?_
  refine c_run (den_bi PySem.F.ks_entry_super_ga) ?_
  unfold Builtin.«super.__getattribute__»
  refine b_same hh hB O2 [] (some "__init_subclass__") (fun sup => by kernel_rfl) (fun sup => by kernel_rfl) (fun sup => by kernel_rfl) (fun sup => by kernel_rfl) fun h3 O3 => ?_
  refine w_noB rfl ?_
  refine b_same hh hB O3 [] (some "__init_subclass__") (fun sup => by kernel_rfl) (fun sup => by kernel_rfl) (fun sup => by kernel_rfl) (fun sup => by kernel_rfl) fun h4 O4 => ?_
  refine b_same hh hB O4 [24] (.ref (C + 100)) (fun sup => by kernel_rfl) (fun sup => by kernel_rfl) (fun sup => by kernel_rfl) (fun sup => by kernel_rfl) fun h5 O5 => ?_
  refine b_same hh hB O5 [24] (.ref (C + 100)) (fun sup => by kernel_rfl) (fun sup => by kernel_rfl) (fun sup => by kernel_rfl) (fun sup => by kernel_rfl) fun h6 O6 => ?_
  refine b_same hh hB O6 [24] (.ref (C + 100)) (fun sup => by kernel_rfl) (fun sup => by kernel_rfl) (fun sup => by kernel_rfl) (fun sup => by kernel_rfl) fun h7 O7 => ?_
  refine w_noB (by kernel_rfl) ?_
  refine b_same hh hB O7 [1003] () (fun sup => by kernel_rfl) (fun sup => by kernel_rfl) (fun sup => by kernel_rfl) (fun sup => by kernel_rfl) fun h8 O8 => ?_
  refine w_noB rfl ?_
  refine b_same hh hB O8 [22] [.ref (C + 100), .type "object"] (fun sup => by kernel_rfl) (fun sup => by kernel_rfl) (fun sup => by kernel_rfl) (fun sup => by kernel_rfl) fun h9 O9 => ?_
  have e1 : List.drop 1 (List.dropWhile (fun x => x != Value.ref (C + 100)) [.ref (C + 100), .type "object"]) = [.type "object"] := by simp
  have e2 : (if (Value.ref (C + 100) == Value.ref (C + 100)) = true then Value.none else Value.ref (C + 100)) = .none := by simp
  rw [e1, e2]
  clear O1 O2 O3 O4 O5 O6 O7
  refine wpAny_bind ?_
  refine seg_call hh hB O9 [] (fun sup => .call (.builtin "classmethod_descriptor.__get__") ⟨[.builtin "object.__init_subclass__", .none, .ref (C + 100)], []⟩) (fun sup => by kernel_rfl) (fun sup => by kernel_rfl) fun sup10 h10 O10 => ?_
  have O11 := O10.pick (N2 := NC p t0 t1 x tt file l fo kc cc f T ns b st nn C mb ++ [superO (so + 100) (.ref (C + 100)) (.ref (C + 100)) (.ref (C + 100))]) [0, 1, 2, 3, 4, 5, 6, 7, 8, 9, 10, 11, 12, 13, 14, 15, 16, 17, 18, 19, 20, 21, 22, 23, 24] (by decide) (by kernel_rfl)
  refine at_toks (show _ = t by kernel_rfl) ?_
  refine c_again hh hB O11 [] (fun sup => .builtin "classmethod_descriptor.__get__" ⟨[.builtin "object.__init_subclass__", .none, .ref (C + 100)], []⟩) rfl (fun sup => by kernel_rfl) (fun sup => by kernel_rfl) (fun sup => by kernel_rfl) fun sup12 h12 O12 => ?_
  have O13 := O12.pick (N2 := NC p t0 t1 x tt file l fo kc cc f T ns b st nn C mb ++ [superO (so + 100) (.ref (C + 100)) (.ref (C + 100)) (.ref (C + 100))]) [0, 1, 2, 3, 4, 5, 6, 7, 8, 9, 10, 11, 12, 13, 14, 15, 16, 17, 18, 19, 20, 21, 22, 23, 24] (by decide) (by kernel_rfl)
  refine at_toks (show _ = t by kernel_rfl) ?_
  refine c_ret hh hB O13 [22, 22] (fun sup => .ret (.ref (sup 0 + 100))) (den_bi PySem.W.KFB.entry_get) (fun sup => by kernel_rfl) (fun sup => by kernel_rfl) fun sup14 h14 O14 => ?_
  have O15 := O14.pick (N2 := NC p t0 t1 x tt file l fo kc cc f T ns b st nn C mb ++ [(sup14 0 + 100, { cls := .type "builtin_function_or_method", data := .fields #[.builtin "object.__init_subclass__", .ref (C + 100)] })]) [0, 1, 2, 3, 4, 5, 6, 7, 8, 9, 10, 11, 12, 13, 14, 15, 16, 17, 18, 19, 20, 21, 22, 23, 25] (by decide) (by kernel_rfl)
  refine at_toks' (show _ = t by kernel_rfl) ?_
  refine s_fin hh hB O15 [] (some (.done (.ret (.ref (sup14 0 + 100)))), ()) _ t (fun sup => by kernel_rfl) (fun sup => by kernel_rfl) (fun sup => rfl) (fun sup => by kernel_rfl) fun h16 O16 => ?_
  exact wpAny_pure (k _ h16 (O16.pick (N2 := NC p t0 t1 x tt file l fo kc cc f T ns b st nn C mb ++ [(sup14 0 + 100, { cls := .type "builtin_function_or_method", data := .fields #[.builtin "object.__init_subclass__", .ref (C + 100)] })]) [0, 1, 2, 3, 4, 5, 6, 7, 8, 9, 10, 11, 12, 13, 14, 15, 16, 17, 18, 19, 20, 21, 22, 23, 24] (by decide) (by kernel_rfl)))
set_option maxRecDepth 20000 in
set_option maxHeartbeats 2000000 in
theorem isub_call {R : Result → Shared → Prop} {B : Objs} {p : Params} {t0 t1 x tt bo : Nat} {file : Str} {l : Nat} {fo : Obj} {kc : Nat → Nat} {cc : Nat} {f : Obj} {T ns : Nat} {b : Nat → Nat} {st nn C mb : Nat} (hh : A.handled = none) (hB : ∀ q ∈ B, c.get? q.1 = some q.2) (O : Own1 c h (NC p t0 t1 x tt file l fo kc cc f T ns b st nn C mb ++ [(bo + 100, { cls := .type "builtin_function_or_method", data := .fields #[.builtin "object.__init_subclass__", .ref (C + 100)] })]))
   (k : ∀ h', Own1 c h' (NC p t0 t1 x tt file l fo kc cc f T ns b st nn C mb) → R (.ok (.ret .none)) ⟨h', g, d, t, o⟩) :
    codeAny (model prog w) A (.call (.ref (bo + 100)) ⟨[], []⟩) R ⟨h, g, d, t, o⟩ := by
  refine c_again hh hB O [24, 22, 22, 22, 22] (fun sup => .builtin "object.__init_subclass__" ⟨[.ref (C + 100)], []⟩) rfl (fun sup => by kernel_rfl) (fun sup => by kernel_rfl) (fun sup => by kernel_rfl) fun sup1 h1 O1 => ?_
  refine c_ret hh hB O1 [] (fun sup => .ret .none) (den_bi en_ois) (fun sup => by kernel_rfl) (fun sup => by kernel_rfl) fun sup2 h2 O2 => ?_
  refine (show (_ : Nat) = t by kernel_rfl) ▸ k h2 (O2.pick (N2 := NC p t0 t1 x tt file l fo kc cc f T ns b st nn C mb) [0, 1, 2, 3, 4, 5, 6, 7, 8, 9, 10, 11, 12, 13, 14, 15, 16, 17, 18, 19, 20, 21, 22, 23] (by decide) (by kernel_rfl))
end
end Mine
namespace Mine
open PySem PySem.W PyProof.Rows
section
variable {prog : Program} {w : World} {A : Around} {g : Array GenState} {d : Drawn} {o : OsState} {c h : Heap} {t : Nat}
set_option maxRecDepth 20000 in
set_option maxHeartbeats 2000000 in
theorem tnew1 {Q : PySem.Fin → Shared → Prop} {E : Value → Shared → Prop} {hs : Nat → Int} {tkk : Nat → Nat} {u1 u2 : Nat} {v : Nat → Nat} {t0 t1 x : Nat} {file : Str} {l : Nat} {fo : Obj} {kc : Nat → Nat} {cc : Nat} {f : Obj} {T ns : Nat} {b : Nat → Nat} {st : Nat} (hh : A.handled = none) (hB : ∀ q ∈ B2 hs tkk file u1 u2 v, c.get? q.1 = some q.2) (O : Own1 c h (NM w.params t0 t1 x file l fo kc cc f T ns b st))
    (k : ∀ nn C mb h', Own1 c h' (NC w.params t0 t1 x t file l fo kc cc f T ns b st nn C mb) → Q (.done (.ret (.ref (C + 100)))) ⟨h', g, d, t + 4, o⟩) :
    wpAny (model prog w) A (Builtin.«type.__new__» ⟨[.type "type", .str "K" t0, .ref (T + 100), .ref (ns + 100)], []⟩) Q E ⟨h, g, d, t, o⟩ := by
  unfold Builtin.«type.__new__»
  refine b_same hh hB O [] (some "K") (fun sup => by kernel_rfl) (fun sup => by kernel_rfl) (fun sup => by kernel_rfl) (fun sup => by kernel_rfl) fun h1 O1 => ?_
  refine b_same hh hB O1 [1] true (fun sup => by kernel_rfl) (fun sup => by kernel_rfl) (fun sup => by kernel_rfl) (fun sup => by kernel_rfl) fun h2 O2 => ?_
  refine w_no (by decide) ?_
  refine b_same hh hB O2 [2] true (fun sup => by kernel_rfl) (fun sup => by kernel_rfl) (fun sup => by kernel_rfl) (fun sup => by kernel_rfl) fun h3 O3 => ?_
  refine w_no (by decide) ?_
  refine b_same hh hB O3 [1] (some #[.type "object"]) (fun sup => by kernel_rfl) (fun sup => by kernel_rfl) (fun sup => by kernel_rfl) (fun sup => by kernel_rfl) fun h4 O4 => ?_
  refine w_no (by decide) ?_
  refine b_same hh hB O4 [] PUnit.unit (fun sup => by kernel_rfl) (fun sup => by kernel_rfl) (fun sup => by kernel_rfl) (fun sup => by kernel_rfl) fun h5 O5 => ?_
  refine b_same hh hB O5 [] (.type "type") (fun sup => by kernel_rfl) (fun sup => by kernel_rfl) (fun sup => by kernel_rfl) (fun sup => by kernel_rfl) fun h6 O6 => ?_
  refine w_no (by decide) ?_
  refine b_same hh hB O6 [] () (fun sup => by kernel_rfl) (fun sup => by kernel_rfl) (fun sup => by kernel_rfl) (fun sup => by kernel_rfl) fun h7 O7 => ?_
  refine b_same hh hB O7 [] (.type "object") (fun sup => by kernel_rfl) (fun sup => by kernel_rfl) (fun sup => by kernel_rfl) (fun sup => by kernel_rfl) fun h8 O8 => ?_
  refine w_no (no_addr (by decide)) ?_
  refine b_same hh hB O8 [2] (nsE w.params t0 b st) (fun sup => by kernel_rfl) (fun sup => by kernel_rfl) (fun sup => by kernel_rfl) (fun sup => by kernel_rfl) fun h9 O9 => ?_
  refine b_same hh hB O9 [2] (some (.builtin "dict.__iter__")) (fun sup => by kernel_rfl) (fun sup => by kernel_rfl) (fun sup => by kernel_rfl) (fun sup => by kernel_rfl) fun h10 O10 => ?_
  refine w_yes (by kernel_rfl) ?_
  refine b_same hh hB O10 [] (nsE w.params t0 b st, []) (fun sup => by kernel_rfl) (fun sup => by kernel_rfl) (fun sup => by kernel_rfl) (fun sup => by kernel_rfl) fun h11 O11 => ?_
  refine b_call hh hB O11 [3] (fun sup => .builtin "proto.collect" ⟨[.ref (b 0 + 100)], []⟩) (fun sup => by kernel_rfl) (fun sup => by kernel_rfl) fun sup12 h12 O12 => ?_
  refine c_again hh hB O12 [] (fun sup => .builtin "list.__iadd__" ⟨[.ref (sup 0 + 100), .ref (b 0 + 100)], []⟩) (den_bi PySem.F.entry_proto_collect) (fun sup => by kernel_rfl) (fun sup => by kernel_rfl) (fun sup => by kernel_rfl) fun sup13 h13 O13 => ?_
  have O13' : Own1 c h13 (NM w.params t0 t1 x file l fo kc cc f T ns b st ++ [(sup13 0 + 100, { cls := .type "list", data := .seq #[] 0 })]) := O13.pick [0, 1, 2, 3, 4, 5, 6, 7, 8, 9, 10, 11, 12, 13, 14, 15, 16, 17, 18, 19, 20, 21] (by decide) (by kernel_rfl)
  refine iadd_list (items := #[.str "obj" (b 215)]) (n := 0) (O13'.get 21 rfl) (O13'.get 3 rfl) (by rw [sizeLine_eq]; simp) ?_
  have O14 := O13'.upd (i := 21) rfl (Obj.mapSeq (· ++ #[.str "obj" (b 215)])) rfl
  refine s_fin hh hB O14 [21] { names := ["obj"], dict := false, weak := false, inherited := [] } (NM w.params t0 t1 x file l fo kc cc f T ns b st ++ [(sup13 0 + 100, { cls := .type "list", data := .seq #[.str "obj" (b 215)] 1 })]) t (fun sup => by kernel_rfl) (fun sup => by kernel_rfl) (fun sup => by kernel_rfl) (fun sup => by kernel_rfl) fun h15 O15 => ?_
  have O16 : Own1 c h15 (NM w.params t0 t1 x file l fo kc cc f T ns b st) := O15.pick [0, 1, 2, 3, 4, 5, 6, 7, 8, 9, 10, 11, 12, 13, 14, 15, 16, 17, 18, 19, 20] (by decide) (by kernel_rfl)
  clear O15 O14 O13 O12 O11 O10 O9 O8 O7 O6 O5 O4 O3 O2 O1 O
  refine b_ok hh hB O16 [] (fun sup => .ref (sup 0 + 100)) (fun sup => NM w.params t0 t1 x file l fo kc cc f T ns b st ++ [(sup 0 + 100, { cls := .type "dict", data := .dict (nsE w.params t0 b st) 0 })]) t (fun sup => by kernel_rfl) (fun sup => by kernel_rfl) (fun sup => by kernel_rfl) (fun sup => by kernel_rfl) fun sup17 h17 O17 => ?_
  refine w_noB (by kernel_rfl) ?_
  refine b_same hh hB O17 [] () (fun sup => by kernel_rfl) (fun sup => by kernel_rfl) (fun sup => by kernel_rfl) (fun sup => by kernel_rfl) fun h18 O18 => ?_
  refine w_noB (by kernel_rfl) ?_
  refine b_same hh hB O18 [21] (some (.str "cmp_to_key.<locals>.K" (b 209))) (fun sup => by kernel_rfl) (fun sup => by kernel_rfl) (fun sup => by kernel_rfl) (fun sup => by kernel_rfl) fun h19 O19 => ?_
  refine b_same hh hB O19 [21] (some (.str "cmp_to_key.<locals>.K" (b 209))) (fun sup => by kernel_rfl) (fun sup => by kernel_rfl) (fun sup => by kernel_rfl) (fun sup => by kernel_rfl) fun h20 O20 => ?_
  refine b_same hh hB O20 [] (some "cmp_to_key.<locals>.K") (fun sup => by kernel_rfl) (fun sup => by kernel_rfl) (fun sup => by kernel_rfl) (fun sup => by kernel_rfl) fun h21 O21 => ?_
  refine b_same hh hB O21 [] "cmp_to_key.<locals>.K" (fun sup => by kernel_rfl) (fun sup => by kernel_rfl) (fun sup => by kernel_rfl) (fun sup => by kernel_rfl) fun h22 O22 => ?_
  refine b_same hh hB O22 [21] none (fun sup => by kernel_rfl) (fun sup => by kernel_rfl) (fun sup => by kernel_rfl) (fun sup => by kernel_rfl) fun h23 O23 => ?_
  refine b_ok hh hB O23 [] (fun sup => sup 0 + 100) (fun sup => NM w.params t0 t1 x file l fo kc cc f T ns b st ++ [(sup17 0 + 100, { cls := .type "dict", data := .dict (nsE w.params t0 b st) 0 }), (sup 0 + 100, { cls := .type "type", data := .cls { name := "K", bases := [.type "object"], mro := [], ns := sup17 0 + 100, qualname := "cmp_to_key.<locals>.K" } })]) t (fun sup => by kernel_rfl) (fun sup => by kernel_rfl) (fun sup => by kernel_rfl) (fun sup => by kernel_rfl) fun sup24 h24 O24 => ?_
  clear O23 O22 O21 O20 O19 O18 O17
  refine w_yesB (by kernel_rfl) ?_
  refine b_ok hh hB O24 [22] (fun _ => ()) _ t (fun sup => by kernel_rfl) (fun sup => by kernel_rfl) (fun sup => rfl) (fun sup => by kernel_rfl) fun sup25 h25 O25 => ?_
  refine b_ok hh hB O25 [22] (fun _ => ()) _ t (fun sup => by kernel_rfl) (fun sup => by kernel_rfl) (fun sup => rfl) (fun sup => by kernel_rfl) fun sup26 h26 O26 => ?_
  refine b_ok hh hB O26 [22] (fun _ => ()) _ t (fun sup => by kernel_rfl) (fun sup => by kernel_rfl) (fun sup => rfl) (fun sup => by kernel_rfl) fun sup27 h27 O27 => ?_
  refine b_ok hh hB O27 [21, 21] (fun _ => true) _ t (fun sup => by kernel_rfl) (fun sup => by kernel_rfl) (fun sup => rfl) (fun sup => by kernel_rfl) fun sup28 h28 O28 => ?_
  refine b_ok hh hB O28 [21] (fun _ => none) _ t (fun sup => by kernel_rfl) (fun sup => by kernel_rfl) (fun sup => rfl) (fun sup => by kernel_rfl) fun sup29 h29 O29 => ?_
  refine b_ok hh hB O29 [21, 21] (fun _ => PUnit.unit) _ t (fun sup => by kernel_rfl) (fun sup => by kernel_rfl) (fun sup => rfl) (fun sup => by kernel_rfl) fun sup30 h30 O30 => ?_
  refine b_ok hh hB O30 [21] (fun _ => none) _ t (fun sup => by kernel_rfl) (fun sup => by kernel_rfl) (fun sup => rfl) (fun sup => by kernel_rfl) fun sup31 h31 O31 => ?_
  refine b_ok hh hB O31 [21] (fun _ => none) _ t (fun sup => by kernel_rfl) (fun sup => by kernel_rfl) (fun sup => rfl) (fun sup => by kernel_rfl) fun sup32 h32 O32 => ?_
  refine b_ok hh hB O32 [] (fun _ => none) _ t (fun sup => by kernel_rfl) (fun sup => by kernel_rfl) (fun sup => rfl) (fun sup => by kernel_rfl) fun sup33 h33 O33 => ?_
  refine b_ok hh hB O33 [] (fun _ => [.type "object"]) _ t (fun sup => by kernel_rfl) (fun sup => by kernel_rfl) (fun sup => rfl) (fun sup => by kernel_rfl) fun sup34 h34 O34 => ?_
  refine b_ok hh hB O34 [] (fun _ => [.ref (sup24 0 + 100), .type "object"]) _ t (fun sup => by kernel_rfl) (fun sup => by kernel_rfl) (fun sup => rfl) (fun sup => by kernel_rfl) fun sup35 h35 O35 => ?_
  refine wpAny_bind ?_
  have hf : List.filter (fun x => x != Value.ref (sup24 0 + 100)) [Value.ref (sup24 0 + 100), Value.type "object"] = [Value.type "object"] := by simp
  rw [hf]
  refine seg_ok hh hB O35 [] (fun _ => false) (fun sup => by kernel_rfl) (fun sup => by kernel_rfl) fun sup36 h36 O36 => ?_
  refine b_ok hh hB O36 [22, 22, 22] (fun _ => ()) _ t (fun sup => by kernel_rfl) (fun sup => by kernel_rfl) (fun sup => rfl) (fun sup => by kernel_rfl) fun sup37 h37 O37 => ?_
  refine b_ok hh hB O37 [] (fun _ => some "object.__new__") _ t (fun sup => by kernel_rfl) (fun sup => by kernel_rfl) (fun sup => rfl) (fun sup => by kernel_rfl) fun sup38 h38 O38 => ?_
  refine b_ok hh hB O38 [22] (fun _ => ()) _ t (fun sup => by kernel_rfl) (fun sup => by kernel_rfl) (fun sup => rfl) (fun sup => by kernel_rfl) fun sup39 h39 O39 => ?_
  refine b_ok hh hB O39 [22, 22, 22, 21] (fun _ => ()) _ t (fun sup => by kernel_rfl) (fun sup => by kernel_rfl) (fun sup => rfl) (fun sup => by kernel_rfl) fun sup40 h40 O40 => ?_
  refine b_ok hh hB O40 [21, 21, 21, 21, 22, 22, 22] (fun _ => ()) _ (t + 2) (fun sup => by kernel_rfl) (fun sup => by kernel_rfl) (fun sup => rfl) (fun sup => by kernel_rfl) fun sup41 h41 O41 => ?_
  refine b_ok hh hB O41 [] (fun _ => false) _ (t + 2) (fun sup => by kernel_rfl) (fun sup => by kernel_rfl) (fun sup => rfl) (fun sup => by kernel_rfl) fun sup42 h42 O42 => ?_
  refine b_ok hh hB O42 [22] (fun _ => ()) _ (t + 2) (fun sup => by kernel_rfl) (fun sup => by kernel_rfl) (fun sup => rfl) (fun sup => by kernel_rfl) fun sup43 h43 O43 => ?_
  refine w_noB rfl ?_
  refine w_noB rfl ?_
  refine b_ok hh hB O43 [21] (fun _ => none) _ (t + 2) (fun sup => by kernel_rfl) (fun sup => by kernel_rfl) (fun sup => rfl) (fun sup => by kernel_rfl) fun sup44 h44 O44 => ?_
  refine w_yesB rfl ?_
  refine b_ok hh hB O44 [21, 21] (fun _ => ()) _ (t + 3) (fun sup => by kernel_rfl) (fun sup => by kernel_rfl) (fun sup => rfl) (fun sup => by kernel_rfl) fun sup45 h45 O45 => ?_
  refine b_ok hh hB O45 [21] (fun _ => some (.ref (b 31 + 100))) _ (t + 3) (fun sup => by kernel_rfl) (fun sup => by kernel_rfl) (fun sup => rfl) (fun sup => by kernel_rfl) fun sup46 h46 O46 => ?_
  refine w_yesB rfl ?_
  refine b_ok hh hB O46 [21] (fun _ => some .none) _ (t + 3) (fun sup => by kernel_rfl) (fun sup => by kernel_rfl) (fun sup => rfl) (fun sup => by kernel_rfl) fun sup47 h47 O47 => ?_
  refine w_noB rfl ?_
  refine b_ok hh hB O47 [] (fun _ => PUnit.unit) _ (t + 3) (fun sup => by kernel_rfl) (fun sup => by kernel_rfl) (fun sup => rfl) (fun sup => by kernel_rfl) fun sup48 h48 O48 => ?_
  have O49 : Own1 c h48 (NC w.params t0 t1 x t file l fo kc cc f T ns b st (sup17 0) (sup24 0) (sup41 0)) := O48.pick [0, 1, 2, 3, 4, 5, 6, 7, 8, 9, 10, 11, 12, 13, 14, 15, 16, 17, 18, 19, 20, 21, 22, 23] (by decide) (by kernel_rfl)
  clear O48 O47 O46 O45 O44 O43 O42 O41 O40 O39 O38 O37 O36 O35 O34 O33 O32 O31 O30 O29 O28 O27 O26 O25 O24
  revert h48
  generalize sup17 0 = nn
  generalize sup24 0 = C
  generalize sup41 0 = mb
  intro h48 O49
  refine wpAny_bind (wpAny_tryCatch (wpAny_holding ?_))
  refine b_same hh hB O49 [21] (nsE2 w.params t0 t b st mb) (fun sup => by kernel_rfl) (fun sup => by kernel_rfl) (fun sup => by kernel_rfl) (fun sup => by kernel_rfl) fun h50 O50 => ?_
  refine b_same hh hB O50 [] false (fun sup => by kernel_rfl) (fun sup => by kernel_rfl) (fun sup => by kernel_rfl) (fun sup => by kernel_rfl) fun h51 O51 => ?_
  refine w_noB rfl ?_
  refine b_same hh hB O51 [21] (nsE2 w.params t0 t b st mb) (fun sup => by kernel_rfl) (fun sup => by kernel_rfl) (fun sup => by kernel_rfl) (fun sup => by kernel_rfl) fun h52 O52 => ?_
  refine b_same hh hB O52 [3, 4, 5, 6, 7, 8, 9, 10, 23] PUnit.unit (fun sup => by kernel_rfl) (fun sup => by kernel_rfl) (fun sup => by kernel_rfl) (fun sup => by kernel_rfl) fun h53 O53 => ?_
  refine b_call hh hB O53 [] (fun sup => .call (.type "super") ⟨[.ref (C + 100), .ref (C + 100)], []⟩) (fun sup => by kernel_rfl) (fun sup => by kernel_rfl) fun sup54 h54 O54 => ?_
  have O55 := O54.pick (N2 := NC w.params t0 t1 x t file l fo kc cc f T ns b st nn C mb) [0, 1, 2, 3, 4, 5, 6, 7, 8, 9, 10, 11, 12, 13, 14, 15, 16, 17, 18, 19, 20, 21, 22, 23] (by decide) (by kernel_rfl)
  refine at_toks (show _ = t + 3 by kernel_rfl) ?_
  refine sup_call hh hB O55 fun so h56 O56 => ?_
  refine s_fin hh hB O56 [] (.ref (so + 100)) (NC w.params t0 t1 x t file l fo kc cc f T ns b st nn C mb ++ [superO (so + 100) (.ref (C + 100)) (.ref (C + 100)) (.ref (C + 100))]) (t + 3) (fun sup => by kernel_rfl) (fun sup => by kernel_rfl) (fun sup => by kernel_rfl) (fun sup => by kernel_rfl) fun h57 O57 => ?_
  refine wpAny_bind (wpAny_holding ?_)
  refine seg_call hh hB O57 [24] (fun sup => .call (.builtin "super.__getattribute__") ⟨[.ref (so + 100), .str "__init_subclass__" (t + 3)], []⟩) (fun sup => by kernel_rfl) (fun sup => by kernel_rfl) fun sup58 h58 O58 => ?_
  have O59 := O58.pick (N2 := (NC w.params t0 t1 x t file l fo kc cc f T ns b st nn C mb ++ [superO (so + 100) (.ref (C + 100)) (.ref (C + 100)) (.ref (C + 100))])) [0, 1, 2, 3, 4, 5, 6, 7, 8, 9, 10, 11, 12, 13, 14, 15, 16, 17, 18, 19, 20, 21, 22, 23, 24] (by decide) (by kernel_rfl)
  refine at_toks (show _ = t + 4 by kernel_rfl) ?_
  refine supga_call hh hB O59 fun bo h60 O60 => ?_
  refine s_fin hh hB O60 [] (.ref (bo + 100)) (NC w.params t0 t1 x t file l fo kc cc f T ns b st nn C mb ++ [(bo + 100, { cls := .type "builtin_function_or_method", data := .fields #[.builtin "object.__init_subclass__", .ref (C + 100)] })]) (t + 4) (fun sup => by kernel_rfl) (fun sup => by kernel_rfl) (fun sup => by kernel_rfl) (fun sup => by kernel_rfl) fun h61 O61 => ?_
  refine b_call hh hB O61 [] (fun sup => .call (.ref (bo + 100)) ⟨[], []⟩) (fun sup => by kernel_rfl) (fun sup => by kernel_rfl) fun sup62 h62 O62 => ?_
  have O63 := O62.pick (N2 := (NC w.params t0 t1 x t file l fo kc cc f T ns b st nn C mb ++ [(bo + 100, { cls := .type "builtin_function_or_method", data := .fields #[.builtin "object.__init_subclass__", .ref (C + 100)] })])) [0, 1, 2, 3, 4, 5, 6, 7, 8, 9, 10, 11, 12, 13, 14, 15, 16, 17, 18, 19, 20, 21, 22, 23, 24] (by decide) (by kernel_rfl)
  refine at_toks (show _ = t + 4 by kernel_rfl) ?_
  refine isub_call hh hB O63 fun h64 O64 => ?_
  refine s_fin hh hB O64 [] .none (NC w.params t0 t1 x t file l fo kc cc f T ns b st nn C mb) (t + 4) (fun sup => by kernel_rfl) (fun sup => by kernel_rfl) (fun sup => by kernel_rfl) (fun sup => by kernel_rfl) fun h65 O65 => ?_
  refine wpAny_pure ?_
  exact wpAny_pure (k _ _ _ h65 O65)
end
end Mine
namespace Mine
open PySem PySem.W PyProof.Rows
theorem en_ti : entryFor table "type.__init__" = some Builtin.«type.__init__» := entryFor_of_tree (by kernel_rfl)
section
variable {prog : Program} {w : World} {A : Around} {g : Array GenState} {d : Drawn} {o : OsState} {c h : Heap} {t : Nat}
set_option maxRecDepth 20000 in
set_option maxHeartbeats 2000000 in
theorem tcall {hs : Nat → Int} {tkk : Nat → Nat} {u1 u2 : Nat} {v : Nat → Nat} {R : Result → Shared → Prop} {t0 t1 x : Nat} {file : Str} {l : Nat} {fo : Obj} {kc : Nat → Nat} {cc : Nat} {f : Obj} {T ns : Nat} {b : Nat → Nat} {st : Nat} (hh : A.handled = none) (hB : ∀ q ∈ B2 hs tkk file u1 u2 v, c.get? q.1 = some q.2) (O : Own1 c h (NM w.params t0 t1 x file l fo kc cc f T ns b st))
    (k : ∀ nn C mb h', Own1 c h' (NC w.params t0 t1 x t file l fo kc cc f T ns b st nn C mb) → R (.ok (.ret (.ref (C + 100)))) ⟨h', g, d, t + 4, o⟩) :
    codeAny (model prog w) A (.call (.type "type") ⟨[.str "K" t0, .ref (T + 100), .ref (ns + 100)], []⟩) R ⟨h, g, d, t, o⟩ := by
  refine c_again hh hB O [] (fun sup => .builtin "type.__call__" ⟨[.type "type", .str "K" t0, .ref (T + 100), .ref (ns + 100)], []⟩) rfl (fun sup => by kernel_rfl) (fun sup => by kernel_rfl) (fun sup => by kernel_rfl) fun sup1 h1 O1 => ?_
  have O2 := O1.pick (N2 := NM w.params t0 t1 x file l fo kc cc f T ns b st) [0, 1, 2, 3, 4, 5, 6, 7, 8, 9, 10, 11, 12, 13, 14, 15, 16, 17, 18, 19, 20] (by decide) (by kernel_rfl)
  refine at_toks (show _ = t by kernel_rfl) ?_
  refine c_call hh hB O2 [] (fun sup => .call (.builtin "type.__new__") ⟨[.type "type", .str "K" t0, .ref (T + 100), .ref (ns + 100)], []⟩) (den_bi PyProof.Rows.entry_type_call) (fun sup => by kernel_rfl) (fun sup => by kernel_rfl) fun sup3 h3 O3 => ?_
  have O4 := O3.pick (N2 := NM w.params t0 t1 x file l fo kc cc f T ns b st) [0, 1, 2, 3, 4, 5, 6, 7, 8, 9, 10, 11, 12, 13, 14, 15, 16, 17, 18, 19, 20] (by decide) (by kernel_rfl)
  refine at_toks (show _ = t by kernel_rfl) ?_
  refine c_again hh hB O4 [] (fun sup => .builtin "type.__new__" ⟨[.type "type", .str "K" t0, .ref (T + 100), .ref (ns + 100)], []⟩) rfl (fun sup => by kernel_rfl) (fun sup => by kernel_rfl) (fun sup => by kernel_rfl) fun sup5 h5 O5 => ?_
  have O6 := O5.pick (N2 := NM w.params t0 t1 x file l fo kc cc f T ns b st) [0, 1, 2, 3, 4, 5, 6, 7, 8, 9, 10, 11, 12, 13, 14, 15, 16, 17, 18, 19, 20] (by decide) (by kernel_rfl)
  refine at_toks (show _ = t by kernel_rfl) ?_
  refine c_run (den_bi en_tn) ?_
  refine tnew1 hh hB O6 fun nn C mb h7 O7 => ?_
  refine seg_call hh hB O7 [22, 22] (fun sup => .call (.builtin "type.__init__") ⟨[.ref (C + 100), .str "K" t0, .ref (T + 100), .ref (ns + 100)], []⟩) (fun sup => by kernel_rfl) (fun sup => by kernel_rfl) fun sup8 h8 O8 => ?_
  have O9 := O8.pick (N2 := NC w.params t0 t1 x t file l fo kc cc f T ns b st nn C mb) [0, 1, 2, 3, 4, 5, 6, 7, 8, 9, 10, 11, 12, 13, 14, 15, 16, 17, 18, 19, 20, 21, 22, 23] (by decide) (by kernel_rfl)
  refine at_toks (show _ = t + 4 by kernel_rfl) ?_
  refine c_again hh hB O9 [22] (fun sup => .builtin "type.__init__" ⟨[.ref (C + 100), .str "K" t0, .ref (T + 100), .ref (ns + 100)], []⟩) rfl (fun sup => by kernel_rfl) (fun sup => by kernel_rfl) (fun sup => by kernel_rfl) fun sup10 h10 O10 => ?_
  refine c_ret hh hB O10 [] (fun sup => .ret .none) (den_bi en_ti) (fun sup => by kernel_rfl) (fun sup => by kernel_rfl) fun sup11 h11 O11 => ?_
  have O12 := O11.pick (N2 := NC w.params t0 t1 x t file l fo kc cc f T ns b st nn C mb) [0, 1, 2, 3, 4, 5, 6, 7, 8, 9, 10, 11, 12, 13, 14, 15, 16, 17, 18, 19, 20, 21, 22, 23] (by decide) (by kernel_rfl)
  refine at_toks' (show _ = t + 4 by kernel_rfl) ?_
  refine s_fin hh hB O12 [] (.done (.ret (.ref (C + 100)))) (NC w.params t0 t1 x t file l fo kc cc f T ns b st nn C mb) (t + 4) (fun sup => by kernel_rfl) (fun sup => by kernel_rfl) (fun sup => by kernel_rfl) (fun sup => by kernel_rfl) fun h13 O13 => ?_
  exact k nn C mb h13 O13
set_option maxRecDepth 20000 in
set_option maxHeartbeats 2000000 in
/-- the class statement of cmp_to_key's block, whole -/
theorem cls2 {hs : Nat → Int} {tk : Nat → Nat} {file : Str} {t1 t2 : Nat} {v : Nat → Nat} {l cc : Nat} {f : Obj} {fo : Obj} {Q E : Value → Shared → Prop} (hh : A.handled = none) (hB : ∀ q ∈ B2 hs tk file t1 t2 v, c.get? q.1 = some q.2) (O : Own1 c h (NK l cc f fo)) (hlim : c.NoLimit) (hdp : A.depth < recursionLimit)
    (k : ∀ kc T ns b st nn C mb h', Own1 c h' (NC w.params t t1 (v 3) (t + 73) file l fo kc cc f T ns b st nn C mb) → Q (.ref (C + 100)) ⟨h', g, d, t + 77, o⟩) :
    wpAny (model prog w) A (clsRun (envK (l + 100) (cc + 100)) clsStm) Q E ⟨h, g, d, t, o⟩ :=
  cls1 hh hB O hlim hdp fun kc T ns b st h' O' => tcall hh hB O' fun nn C mb h'' O'' => ⟨_, _, _, rfl, rfl, O'', fun h3 O3 => k kc T ns b st nn C mb h3 O3⟩
end
end Mine
namespace Mine
open PySem PySem.W PyProof.Rows
noncomputable def KB (p : Params) (t0 t1 x tt : Nat) (file : Str) (cc : Nat) (f : Obj) (T : Nat) (b : Nat → Nat) (st nn C mb : Nat) : Objs := [(cc + 100, f), (b 7 + 100, fnK 2 [] (b 6 + 100) .none t1), (b 15 + 100, fnK 3 [("mycmp", cc + 100)] (b 14 + 100) (.ref (b 8 + 100)) t1),
  (b 6 + 100, codeK "__init__" "cmp_to_key.<locals>.K.__init__" file 8 (b 99 + 17) x (b 1 + 100) (b 2 + 100) (b 3 + 100) (b 4 + 100) (b 5 + 100)), (b 14 + 100, codeK "__lt__" "cmp_to_key.<locals>.K.__lt__" file 11 (b 99 + 25) x (b 9 + 100) (b 10 + 100) (b 11 + 100) (b 12 + 100) (b 13 + 100)),
  (nn + 100, nsO p t0 tt b st mb), (C + 100, clsO t0 b T nn C), (mb + 100, memO tt C)]
noncomputable def keyO (C D : Addr) (sl : Array (Option Value)) : Obj := { cls := .ref C, dict := some D, data := .plain, slots := sl }
noncomputable def dicO : Obj := { cls := .type "dict", data := .dict #[] 0 }
noncomputable def bdI (i : Nat) : List Stmt := bodyOf (clsBody.getD i (.Pass ⟨0, 0, 0, 0⟩))
theorem bdI2 : bdI 2 = [.Assign [.Attribute (.Name "self" ⟨9, 12, 9, 16⟩) "obj" ⟨9, 12, 9, 20⟩] (.Name "obj" ⟨9, 23, 9, 26⟩) ⟨9, 12, 9, 26⟩] := by kernel_rfl
theorem bdI3 : bdI 3 = [.Return (some (.Compare (.Call (.Name "mycmp" ⟨12, 19, 12, 24⟩) [.Attribute (.Name "self" ⟨12, 25, 12, 29⟩) "obj" ⟨12, 25, 12, 33⟩, .Attribute (.Name "other" ⟨12, 35, 12, 40⟩) "obj" ⟨12, 35, 12, 44⟩] [] ⟨12, 19, 12, 45⟩) [.Lt] [.Constant (.int 0) 0 ⟨12, 48, 12, 49⟩] ⟨12, 19, 12, 49⟩)) ⟨12, 12, 12, 49⟩] := by kernel_rfl
section
variable {prog : Program} {w : World} {A : Around} {g : Array GenState} {d : Drawn} {o : OsState} {c h : Heap} {t : Nat}
theorem at_toks'' {R : Result → Shared → Prop} {r : Result} {t t' : Nat} (e : t = t') (k : R r ⟨h, g, d, t', o⟩) : R r ⟨h, g, d, t, o⟩ := e ▸ k
set_option maxRecDepth 20000 in
set_option maxHeartbeats 2000000 in
theorem key_new {hs : Nat → Int} {tkk : Nat → Nat} {u1 u2 : Nat} {v : Nat → Nat} {file : Str} {R : Result → Shared → Prop} {p : Params} {t0 t1 x tt : Nat} {cc : Nat} {f : Obj} {T : Nat} {b : Nat → Nat} {st nn C mb : Nat} {val : Value} (hh : A.handled = none) (hB : ∀ q ∈ B2 hs tkk file u1 u2 v ++ KB p t0 t1 x tt file cc f T b st nn C mb, c.get? q.1 = some q.2) (O : Own1 c h [])
   (k : ∀ D X h', Own1 c h' [(D + 100, dicO), (X + 100, keyO (C + 100) (D + 100) #[])] → R (.ok (.ret (.ref (X + 100)))) ⟨h', g, d, t, o⟩) :
    codeAny (model prog w) A (.call (.builtin "object.__new__") ⟨[.ref (C + 100), val], []⟩) R ⟨h, g, d, t, o⟩ := by
  refine c_again hh hB O [1010, 1010, 1010, 1010, 1010, 1010, 1010] (fun sup => .builtin "object.__new__" ⟨[.ref (C + 100), val], []⟩) rfl (fun sup => by kernel_rfl) (fun sup => by kernel_rfl) (fun sup => by kernel_rfl) fun sup1 h1 O1 => ?_
  have O2 := O1.pick (N2 := []) [] (by decide) (by kernel_rfl)
  refine at_toks (show _ = t by kernel_rfl) ?_
  refine c_ret hh hB O2 [1010, 1010, 1010, 1010, 1010, 1010, 1010, 1010, 1010, 1010, 1009, 1010, 1010] (fun sup => .ret (.ref (sup 1 + 100))) (den_bi PySem.F.entry_object_new) (fun sup => by kernel_rfl) (fun sup => by kernel_rfl) fun sup3 h3 O3 => ?_
  refine at_toks'' (show _ = t by kernel_rfl) ?_
  exact k (sup3 0) (sup3 1) h3 (O3.pick [0, 1] (by decide) (by kernel_rfl))
set_option maxRecDepth 20000 in
set_option maxHeartbeats 2000000 in
theorem key_set {hs : Nat → Int} {tkk : Nat → Nat} {u1 u2 : Nat} {v : Nat → Nat} {file : Str} {Q : Unit → Shared → Prop} {E : Value → Shared → Prop} {t0 t1 x tt : Nat} {cc : Nat} {f : Obj} {T : Nat} {b : Nat → Nat} {st nn C mb D X : Nat} {val : Value} (hh : A.handled = none) (hB : ∀ q ∈ B2 hs tkk file u1 u2 v ++ KB w.params t0 t1 x tt file cc f T b st nn C mb, c.get? q.1 = some q.2) (O : Own1 c h [(D + 100, dicO), (X + 100, keyO (C + 100) (D + 100) #[])])
    (k : ∀ h', Own1 c h' [(D + 100, dicO), (X + 100, keyO (C + 100) (D + 100) #[some val])] → Q () ⟨h', g, d, t + 1, o⟩) :
    wpAny (model prog w) A (setAttr (.ref (X + 100)) "obj" val) Q E ⟨h, g, d, t, o⟩ := by
  refine seg_call hh hB O [1, 1010, 1010, 1009] (fun sup => .call (.builtin "object.__setattr__") ⟨[.ref (X + 100), .str "obj" t, val], []⟩) (fun sup => by kernel_rfl) (fun sup => by kernel_rfl) fun sup1 h1 O1 => ?_
  have O2 := O1.pick (N2 := [(D + 100, dicO), (X + 100, keyO (C + 100) (D + 100) #[])]) [0, 1] (by decide) (by kernel_rfl)
  refine at_toks (show _ = t + 1 by kernel_rfl) ?_
  refine c_again hh hB O2 [1, 1010] (fun sup => .builtin "object.__setattr__" ⟨[.ref (X + 100), .str "obj" t, val], []⟩) rfl (fun sup => by kernel_rfl) (fun sup => by kernel_rfl) (fun sup => by kernel_rfl) fun sup3 h3 O3 => ?_
  have O4 := O3.pick (N2 := [(D + 100, dicO), (X + 100, keyO (C + 100) (D + 100) #[])]) [0, 1] (by decide) (by kernel_rfl)
  refine at_toks (show _ = t + 1 by kernel_rfl) ?_
  refine c_call hh hB O4 [1, 1010, 1, 1010, 1010, 1009, 1011, 1011] (fun sup => .call (.builtin "member_descriptor.__set__") ⟨[.ref (mb + 100), .ref (X + 100), val], []⟩) (den_bi PySem.F.entry_object_sa) (fun sup => by kernel_rfl) (fun sup => by kernel_rfl) fun sup5 h5 O5 => ?_
  have O6 := O5.pick (N2 := [(D + 100, dicO), (X + 100, keyO (C + 100) (D + 100) #[])]) [0, 1] (by decide) (by kernel_rfl)
  refine at_toks (show _ = t + 1 by kernel_rfl) ?_
  refine c_again hh hB O6 [1011] (fun sup => .builtin "member_descriptor.__set__" ⟨[.ref (mb + 100), .ref (X + 100), val], []⟩) rfl (fun sup => by kernel_rfl) (fun sup => by kernel_rfl) (fun sup => by kernel_rfl) fun sup7 h7 O7 => ?_
  have O8 := O7.pick (N2 := [(D + 100, dicO), (X + 100, keyO (C + 100) (D + 100) #[])]) [0, 1] (by decide) (by kernel_rfl)
  refine at_toks (show _ = t + 1 by kernel_rfl) ?_
  clear O O1 O2 O3 O4 O5 O6 O7
  refine c_run (den_bi PySem.W.KF.entry_mset) ?_
  unfold Builtin.«member_descriptor.__set__» Builtin.Getset_descriptor.descrSet Builtin.Getset_descriptor.descrStoreThrough Builtin.Getset_descriptor.descrCheckInstance
  refine w_noB rfl ?_
  refine wpAny_bind ?_
  refine b_same hh hB O8 [1011, 1011] ("obj", .ref (C + 100)) (fun sup => by kernel_rfl) (fun sup => by kernel_rfl) (fun sup => by kernel_rfl) (fun sup => by kernel_rfl) fun h9 O9 => ?_
  refine b_same hh hB O9 [1, 1010] ([Value.ref (C + 100), .type "object"].contains (.ref (C + 100))) (fun sup => by kernel_rfl) (fun sup => by kernel_rfl) (fun sup => by kernel_rfl) (fun sup => by kernel_rfl) fun h10 O10 => ?_
  refine w_noB (by simp) ?_
  refine wpAny_pure ?_
  refine s_fin hh hB O10 [1011, 1011] (.again (.builtin "proto.slot#set" ⟨[.ref (X + 100), val, .ref (mb + 100)], []⟩)) [(D + 100, dicO), (X + 100, keyO (C + 100) (D + 100) #[])] (t + 1) (fun sup => by kernel_rfl) (fun sup => by kernel_rfl) (fun sup => by kernel_rfl) (fun sup => by kernel_rfl) fun h11 O11 => ?_
  refine ⟨by kernel_rfl, ?_⟩
  refine c_ret hh hB O11 [1011, 1011, 1, 1010, 1] (fun sup => .ret .none) (den_bi PySem.W.KF.entry_slotset) (fun sup => by kernel_rfl) (fun sup => by kernel_rfl) fun sup12 h12 O12 => ?_
  have O13 := O12.pick (N2 := [(D + 100, dicO), (X + 100, keyO (C + 100) (D + 100) #[some val])]) [0, 1] (by decide) (by kernel_rfl)
  refine at_toks' (show _ = t + 1 by kernel_rfl) ?_
  refine s_fin hh hB O13 [] (.done (.ret .none)) [(D + 100, dicO), (X + 100, keyO (C + 100) (D + 100) #[some val])] (t + 1) (fun sup => by kernel_rfl) (fun sup => by kernel_rfl) (fun sup => by kernel_rfl) (fun sup => by kernel_rfl) fun h14 O14 => ?_
  refine s_fin hh hB O14 [] () [(D + 100, dicO), (X + 100, keyO (C + 100) (D + 100) #[some val])] (t + 1) (fun sup => by kernel_rfl) (fun sup => by kernel_rfl) (fun sup => by kernel_rfl) (fun sup => by kernel_rfl) fun h15 O15 => ?_
  exact k h15 O15
end
end Mine
namespace Mine
open PySem PySem.W PyProof.Rows
section
variable {prog : Program} {w : World} {A : Around} {g : Array GenState} {d : Drawn} {o : OsState} {c h : Heap} {t : Nat}
theorem wt_call {a : Addr} {r : List Value} : (Code.builtin "type.__call__" ⟨.ref a :: r, []⟩).weight = 1 := by kernel_rfl
theorem Own1.grow {N : Objs} {h' : Heap} (O : Own1 c h N) (u : Up h h') (sz : 100 ≤ h'.objs.size) : Own1 c h' N := ⟨O.up.trans u, fun q hq => u _ _ (O.at' q hq), O.nc, O.nd, sz⟩
set_option maxRecDepth 20000 in
set_option maxHeartbeats 2000000 in
theorem key_init {hs : Nat → Int} {tkk : Nat → Nat} {u1 u2 : Nat} {v : Nat → Nat} {file : Str} {R : Result → Shared → Prop} {t0 t1 x tt : Nat} {cc : Nat} {f : Obj} {T : Nat} {b : Nat → Nat} {st nn C mb D X : Nat} {val : Value} (hh : A.handled = none) (hdp : A.depth < recursionLimit) (hlim : c.NoLimit) (hB : ∀ q ∈ B2 hs tkk file u1 u2 v ++ KB w.params t0 t1 x tt file cc f T b st nn C mb, c.get? q.1 = some q.2) (O : Own1 c h [(D + 100, dicO), (X + 100, keyO (C + 100) (D + 100) #[])])
    (k : ∀ h' t', Own1 c h' [(D + 100, dicO), (X + 100, keyO (C + 100) (D + 100) #[some val])] → R (.ok (.ret .none)) ⟨h', g, d, t', o⟩) :
    codeAny (model prog w) A (.call (.ref (b 7 + 100)) ⟨[.ref (X + 100), val], []⟩) R ⟨h, g, d, t, o⟩ := by
  refine codeAny_call_def (fd := fdK 2 [] (.ref (b 6 + 100)) .none t1) (body := bdI 2) (binds := [("self", .ref (X + 100)), ("obj", val)]) hdp (O.up _ _ (hB (b 7 + 100, fnK 2 [] (b 6 + 100) .none t1) (by simp [KB]))) rfl (hlim.keeps O.up)
    ⟨_, _, _, b 99 + 18, rfl, O.up _ _ (hB (b 6 + 100, codeK "__init__" "cmp_to_key.<locals>.K.__init__" file 8 (b 99 + 17) x (b 1 + 100) (b 2 + 100) (b 3 + 100) (b 4 + 100) (b 5 + 100)) (by simp [KB])), rfl, by kernel_rfl⟩ (by kernel_rfl) (BindsTo.of_eq (by kernel_rfl)) (by rw [show (fdK 2 [] (.ref (b 6 + 100)) .none t1).scope.names = ([("self", .local), ("obj", .local)] : List (Str × NameKind)) by kernel_rfl]; decide) (by intro y hy; simp only [List.mem_cons, List.not_mem_nil, or_false] at hy; rcases hy with rfl | rfl <;> kernel_rfl) (fun h₀ hns up => ?_) (by kernel_rfl) (by kernel_rfl) (by kernel_rfl)
  generalize hL : h.objs.size = L at hns ⊢
  rw [bdI2]
  have O1 := O.grow up (Nat.le_trans (Nat.le_add_left 100 D) (Nat.le_of_lt (Heap.lt_size (up _ _ (O.get 0 (a := D + 100) rfl)))))
  have kd : ∀ y, (callEnv (fdK 2 [] (.ref (b 6 + 100)) .none t1) L (b 7 + 100)).kindOf y = (fdK 2 [] (.ref (b 6 + 100)) .none t1).scope.names.lookup y := fun y => rfl
  refine wpAny_execs_cons (plainObj_wpAny_Assign_Attribute (wpAny_Name (wpAny_loadName_local (by kernel_rfl) (by rw [kd]; kernel_rfl) hns (v := val) (by kernel_rfl) ?_) (by kernel_rfl)))
  refine wpAny_Name (wpAny_loadName_local (by kernel_rfl) (by rw [kd]; kernel_rfl) hns (v := .ref (X + 100)) (by kernel_rfl) ?_) (by kernel_rfl)
  refine key_set (by exact hh) hB O1 fun h' O' => ?_
  exact wpAny_execs_nil (k h' _ O')
set_option maxRecDepth 20000 in
set_option maxHeartbeats 2000000 in
theorem key_call {hs : Nat → Int} {tkk : Nat → Nat} {u1 u2 : Nat} {v : Nat → Nat} {file : Str} {Q E : Value → Shared → Prop} {t0 t1 x tt : Nat} {cc : Nat} {f : Obj} {T : Nat} {b : Nat → Nat} {st nn C mb : Nat} {val : Value} (hh : A.handled = none) (hdp : A.depth + 1 < recursionLimit) (hlim : c.NoLimit) (hB : ∀ q ∈ B2 hs tkk file u1 u2 v ++ KB w.params t0 t1 x tt file cc f T b st nn C mb, c.get? q.1 = some q.2) (O : Own1 c h [])
    (k : ∀ D X h' t', Own1 c h' [(D + 100, dicO), (X + 100, keyO (C + 100) (D + 100) #[some val])] → Q (.ref (X + 100)) ⟨h', g, d, t', o⟩) :
    wpAny (model prog w) A (call (.ref (C + 100)) [val]) Q E ⟨h, g, d, t, o⟩ := by
  refine seg_call hh hB O [] (fun sup => .call (.ref (C + 100)) ⟨[val], []⟩) (fun sup => by kernel_rfl) (fun sup => by kernel_rfl) fun sup1 h1 O1 => ?_
  have O2 := O1.pick (N2 := []) [] (by decide) (by kernel_rfl)
  refine at_toks (show _ = t by kernel_rfl) ?_
  refine c_again hh hB O2 [1010, 1010] (fun sup => .call (.builtin "type.__call__") ⟨[.ref (C + 100), val], []⟩) rfl (fun sup => by kernel_rfl) (fun sup => by kernel_rfl) (fun sup => by kernel_rfl) fun sup3 h3 O3 => ?_
  have O4 := O3.pick (N2 := []) [] (by decide) (by kernel_rfl)
  refine at_toks (show _ = t by kernel_rfl) ?_
  refine c_again hh hB O4 [1010] (fun sup => .builtin "type.__call__" ⟨[.ref (C + 100), val], []⟩) rfl (fun sup => by kernel_rfl) (fun sup => by kernel_rfl) (fun sup => by kernel_rfl) fun sup5 h5 O5 => ?_
  have O6 := O5.pick (N2 := []) [] (by decide) (by kernel_rfl)
  refine at_toks (show _ = t by kernel_rfl) ?_
  clear O1 O2 O3 O4 O5
  refine c_run (den_bi PyProof.Rows.entry_type_call) ?_
  unfold Builtin.«type.__call__»
  refine w_noB rfl ?_
  refine b_same hh hB O6 [1010] [.ref (C + 100), .type "object"] (fun sup => by kernel_rfl) (fun sup => by kernel_rfl) (fun sup => by kernel_rfl) (fun sup => by kernel_rfl) fun h7 O7 => ?_
  refine w_noB rfl ?_
  refine b_same hh hB O7 [1010, 1010] (some "object.__new__") (fun sup => by kernel_rfl) (fun sup => by kernel_rfl) (fun sup => by kernel_rfl) (fun sup => by kernel_rfl) fun h8 O8 => ?_
  refine b_same hh hB O8 [] (.builtin "object.__new__") (fun sup => by kernel_rfl) (fun sup => by kernel_rfl) (fun sup => by kernel_rfl) (fun sup => by kernel_rfl) fun h9 O9 => ?_
  refine wpAny_bind (wpAny_holding ?_)
  refine seg_call hh hB O9 [] (fun sup => .call (.builtin "object.__new__") ⟨[.ref (C + 100), val], []⟩) (fun sup => by kernel_rfl) (fun sup => by kernel_rfl) fun sup10 h10 O10 => ?_
  have O11 := O10.pick (N2 := []) [] (by decide) (by kernel_rfl)
  refine at_toks (show _ = t by kernel_rfl) ?_
  clear O6 O7 O8 O9 O10
  refine key_new hh hB O11 fun D X h12 O12 => ?_
  refine s_fin hh hB O12 [] (.ref (X + 100)) [(D + 100, dicO), (X + 100, keyO (C + 100) (D + 100) #[])] t (fun sup => by kernel_rfl) (fun sup => by kernel_rfl) (fun sup => by kernel_rfl) (fun sup => by kernel_rfl) fun h13 O13 => ?_
  refine b_same hh hB O13 [1, 1010] ([Value.ref (C + 100), .type "object"].contains (.ref (C + 100))) (fun sup => by kernel_rfl) (fun sup => by kernel_rfl) (fun sup => by kernel_rfl) (fun sup => by kernel_rfl) fun h14 O14 => ?_
  refine w_noB (by simp) ?_
  refine wpAny_bind (wpAny_holding ?_)
  refine seg_call hh hB O14 [1, 1010, 1010, 1009, 1005] (fun sup => .call (.ref (b 7 + 100)) ⟨[.ref (X + 100), val], []⟩) (fun sup => by kernel_rfl) (fun sup => by kernel_rfl) fun sup15 h15 O15 => ?_
  have O16 := O15.pick (N2 := [(D + 100, dicO), (X + 100, keyO (C + 100) (D + 100) #[])]) [0, 1] (by decide) (by kernel_rfl)
  refine at_toks (show _ = t by kernel_rfl) ?_
  clear O11 O12 O13 O14 O15
  refine key_init hh (by show A.depth + _ < _; rw [wt_call]; exact hdp) hlim hB O16 fun h17 t17 O17 => ?_
  refine s_fin hh hB O17 [] (some .none) [(D + 100, dicO), (X + 100, keyO (C + 100) (D + 100) #[some val])] t17 (fun sup => by kernel_rfl) (fun sup => by kernel_rfl) (fun sup => by kernel_rfl) (fun sup => by kernel_rfl) fun h18 O18 => ?_
  refine w_noB rfl ?_
  refine wpAny_pure ?_
  refine s_fin hh hB O18 [] (.ref (X + 100)) [(D + 100, dicO), (X + 100, keyO (C + 100) (D + 100) #[some val])] t17 (fun sup => by kernel_rfl) (fun sup => by kernel_rfl) (fun sup => by kernel_rfl) (fun sup => by kernel_rfl) fun h19 O19 => ?_
  exact k D X h19 t17 O19
end
end Mine
namespace Mine
open PySem PySem.W PyProof.Rows
section
variable {prog : Program} {w : World} {A : Around} {g : Array GenState} {d : Drawn} {o : OsState} {c h : Heap} {t : Nat}
set_option maxRecDepth 20000 in
set_option maxHeartbeats 2000000 in
theorem key_get {hs : Nat → Int} {tkk : Nat → Nat} {u1 u2 : Nat} {v : Nat → Nat} {file : Str} {Q E : Value → Shared → Prop} {p : Params} {t0 t1 x tt : Nat} {cc : Nat} {f : Obj} {T : Nat} {b : Nat → Nat} {st nn C mb D X : Nat} {sv : Str} {sk : Tok} (hh : A.handled = none) (hB : ∀ q ∈ B2 hs tkk file u1 u2 v ++ KB p t0 t1 x tt file cc f T b st nn C mb ++ [(X, keyO (C + 100) D #[some (.str sv sk)])], c.get? q.1 = some q.2) (O : Own1 c h [])
    (k : ∀ h' t', Own1 c h' [] → Q (.str sv sk) ⟨h', g, d, t', o⟩) :
    wpAny (model prog w) A (getAttr (.ref X) "obj" true) Q E ⟨h, g, d, t, o⟩ := by
  refine seg_call hh hB O [1012, 1010, 1010, 1009] (fun sup => .builtin "proto.getattr_hooked" ⟨[.ref X, .str "obj" t], []⟩) (fun sup => by kernel_rfl) (fun sup => by kernel_rfl) fun sup1 h1 O1 => ?_
  have O2 := O1.pick (N2 := []) [] (by decide) (by kernel_rfl)
  refine at_toks (show _ = t + 1 by kernel_rfl) ?_
  refine c_call hh hB O2 [1012, 1010, 1010, 1009, 1011, 1011, 1010, 1010, 1009] (fun sup => .call (.builtin "member_descriptor.__get__") ⟨[.ref (mb + 100), .ref X, .ref (C + 100)], []⟩) (den_bi PySem.F.plainObj_entry_getattr_hooked) (fun sup => by kernel_rfl) (fun sup => by kernel_rfl) fun sup3 h3 O3 => ?_
  have O4 := O3.pick (N2 := []) [] (by decide) (by kernel_rfl)
  refine at_toks (show _ = t + 1 by kernel_rfl) ?_
  refine c_again hh hB O4 [1011] (fun sup => .builtin "member_descriptor.__get__" ⟨[.ref (mb + 100), .ref X, .ref (C + 100)], []⟩) rfl (fun sup => by kernel_rfl) (fun sup => by kernel_rfl) (fun sup => by kernel_rfl) fun sup5 h5 O5 => ?_
  have O6 := O5.pick (N2 := []) [] (by decide) (by kernel_rfl)
  refine at_toks (show _ = t + 1 by kernel_rfl) ?_
  clear O O1 O2 O3 O4 O5
  refine c_run (den_bi PySem.W.KF.entry_mem) ?_
  unfold Builtin.«member_descriptor.__get__» Builtin.Getset_descriptor.descrGet
  refine b_same hh hB O6 [] (.ref (mb + 100), some (.ref X), some (.ref (C + 100))) (fun sup => by kernel_rfl) (fun sup => by kernel_rfl) (fun sup => by kernel_rfl) (fun sup => by kernel_rfl) fun h7 O7 => ?_
  unfold Builtin.Getset_descriptor.descrGetter Builtin.Getset_descriptor.descrCheckInstance
  refine wpAny_bind ?_
  refine b_same hh hB O7 [1011, 1011] ("obj", .ref (C + 100)) (fun sup => by kernel_rfl) (fun sup => by kernel_rfl) (fun sup => by kernel_rfl) (fun sup => by kernel_rfl) fun h9 O9 => ?_
  refine b_same hh hB O9 [1012, 1010] ([Value.ref (C + 100), .type "object"].contains (.ref (C + 100))) (fun sup => by kernel_rfl) (fun sup => by kernel_rfl) (fun sup => by kernel_rfl) (fun sup => by kernel_rfl) fun h10 O10 => ?_
  refine w_noB (by simp) ?_
  refine wpAny_pure ?_
  refine s_fin hh hB O10 [1011, 1011] (.again (.builtin "proto.slot" ⟨[.ref X, .ref (mb + 100)], []⟩)) [] (t + 1) (fun sup => by kernel_rfl) (fun sup => by kernel_rfl) (fun sup => by kernel_rfl) (fun sup => by kernel_rfl) fun h11 O11 => ?_
  refine ⟨by kernel_rfl, ?_⟩
  refine c_ret hh hB O11 [1011, 1011, 1012, 1010, 1012] (fun sup => .ret (.str sv sk)) (den_bi PySem.W.KF.entry_slot) (fun sup => by kernel_rfl) (fun sup => by kernel_rfl) fun sup12 h12 O12 => ?_
  have O13 := O12.pick (N2 := []) [] (by decide) (by kernel_rfl)
  refine at_toks' (show _ = t + 1 by kernel_rfl) ?_
  refine s_fin hh hB O13 [] (.done (.ret (.str sv sk))) [] (t + 1) (fun sup => by kernel_rfl) (fun sup => by kernel_rfl) (fun sup => by kernel_rfl) (fun sup => by kernel_rfl) fun h14 O14 => ?_
  refine s_fin hh hB O14 [] (.str sv sk) [] (t + 1) (fun sup => by kernel_rfl) (fun sup => by kernel_rfl) (fun sup => by kernel_rfl) (fun sup => by kernel_rfl) fun h15 O15 => ?_
  exact k h15 _ O15
end
end Mine
namespace Mine
open PySem PySem.W PyProof.Rows
/-- the class that cmp_to_key made of f stands at a -/
noncomputable def KC (p : Params) (c : Heap) (a : Addr) (f : Value) : Prop :=
  ∃ hs tkk u1 u2 v file t0 t1 x tt cc co T b st nn C mb, co.data = .cell (some f) ∧ a = C + 100 ∧ ∀ q ∈ B2 hs tkk file u1 u2 v ++ KB p t0 t1 x tt file cc co T b st nn C mb, c.get? q.1 = some q.2
theorem KC.up {p : Params} {c c' : Heap} {a : Addr} {f : Value} (k : KC p c a f) (u : Up c c') : KC p c' a f := by
  obtain ⟨hs, tkk, u1, u2, v, file, t0, t1, x, tt, cc, co, T, b, st, nn, C, mb, ec, e, k⟩ := k
  exact ⟨hs, tkk, u1, u2, v, file, t0, t1, x, tt, cc, co, T, b, st, nn, C, mb, ec, e, fun q hq => u _ _ (k q hq)⟩
noncomputable def KeyAt (c : Heap) (a X : Addr) (l : List Nat) : Prop := ∃ D sk, c.get? X = some (keyO a D #[some (.str (tx l) sk)])
theorem KeyAt.up {c c' : Heap} {a X : Addr} {l : List Nat} (k : KeyAt c a X l) (u : Up c c') : KeyAt c' a X l := let ⟨D, sk, e⟩ := k; ⟨D, sk, u _ _ e⟩
theorem KC.lt100 {p : Params} {c : Heap} {a : Addr} {f : Value} (k : KC p c a f) : 100 ≤ c.objs.size := by
  obtain ⟨hs, tkk, u1, u2, v, file, t0, t1, x, tt, cc, co, T, b, st, nn, C, mb, ec, e, k⟩ := k
  have := Heap.lt_size (k (C + 100, clsO t0 b T nn C) (by simp [KB]))
  exact Nat.le_trans (Nat.le_add_left 100 C) (Nat.le_of_lt this)
theorem Own1.here {h : Heap} (sz : 100 ≤ h.objs.size) : Own1 h h [] := ⟨.refl _, by simp, by simp, by simp, sz⟩
section
variable {prog : Program} {w : World} {A : Around} {g : Array GenState} {d : Drawn} {o : OsState} {c h : Heap} {t : Nat}
theorem get_obj {Q E : Value → Shared → Prop} {a X : Addr} {f : Value} {l : List Nat} (hh : A.handled = none) (kc : KC w.params h a f) (kx : KeyAt h a X l)
    (k : ∀ v h' t', Up h h' → Den h' v (.str l) → Q v ⟨h', g, d, t', o⟩) : wpAny (model prog w) A (getAttr (.ref X) "obj" true) Q E ⟨h, g, d, t, o⟩ := by
  have sz := kc.lt100
  obtain ⟨hs, tkk, u1, u2, v, file, t0, t1, x, tt, cc, co, T, b, st, nn, C, mb, ec, rfl, kb⟩ := kc
  obtain ⟨D, sk, ex⟩ := kx
  have hB : ∀ q ∈ B2 hs tkk file u1 u2 v ++ KB w.params t0 t1 x tt file cc co T b st nn C mb ++ [(X, keyO (C + 100) D #[some (.str (tx l) sk)])], h.get? q.1 = some q.2 := fun q hq => by
    rcases List.mem_append.mp hq with hq | hq
    · exact kb q hq
    · rw [List.mem_singleton.mp hq]; exact ex
  exact key_get hh hB (.here sz) fun h' t' O' => k _ h' t' O'.up (by simp only [Den]; exact ⟨_, rfl⟩)
set_option maxRecDepth 20000 in
set_option maxHeartbeats 2000000 in
theorem lt_func {R : Result → Shared → Prop} {n : Nat} {hs : Nat → Int} {tkk : Nat → Nat} {u1 u2 : Nat} {v : Nat → Nat} {file : Str} {t0 t1 x tt : Nat} {cc fa : Nat} {co : Obj} {T : Nat} {b : Nat → Nat} {st nn C mb : Nat} {X Y : Addr} {l1 l2 : List Nat} {r : Int} {stF : Stmt}
    (kb : ∀ q ∈ B2 hs tkk file u1 u2 v ++ KB w.params t0 t1 x tt file cc co T b st nn C mb, h.get? q.1 = some q.2) (hco : co.data = .cell (some (.ref fa))) (lim : h.NoLimit) (kx : KeyAt h (C + 100) X l1) (ky : KeyAt h (C + 100) Y l2) (Df : IsDef h fa stF)
    (mc : ∀ A', Rm A' n → Cl prog w A' h (.ref fa) [.str l1, .str l2] (.int r)) (rm : Rm A (n + 1))
    (k : ∀ h' t', Up h h' → R (.ok (.ret (.bool (decide (r < 0))))) ⟨h', g, d, t', o⟩) :
    codeAny (model prog w) A (.call (.ref (b 15 + 100)) ⟨[.ref X, .ref Y], []⟩) R ⟨h, g, d, t, o⟩ := by
  have kc : KC w.params h (C + 100) (.ref fa) := ⟨hs, tkk, u1, u2, v, file, t0, t1, x, tt, cc, co, T, b, st, nn, C, mb, hco, rfl, kb⟩
  refine codeAny_call_def (fd := fdK 3 [("mycmp", cc + 100)] (.ref (b 14 + 100)) (.ref (b 8 + 100)) t1) (body := bdI 3) (binds := [("self", .ref X), ("other", .ref Y)]) rm.room (kb (b 15 + 100, fnK 3 [("mycmp", cc + 100)] (b 14 + 100) (.ref (b 8 + 100)) t1) (by simp [KB])) rfl lim
    ⟨_, _, _, b 99 + 26, rfl, kb (b 14 + 100, codeK "__lt__" "cmp_to_key.<locals>.K.__lt__" file 11 (b 99 + 25) x (b 9 + 100) (b 10 + 100) (b 11 + 100) (b 12 + 100) (b 13 + 100)) (by simp [KB]), rfl, by kernel_rfl⟩ (by kernel_rfl) (BindsTo.of_eq (by kernel_rfl)) (by rw [show (fdK 3 [("mycmp", cc + 100)] (.ref (b 14 + 100)) (.ref (b 8 + 100)) t1).scope.names = ([("self", .local), ("other", .local), ("mycmp", .free)] : List (Str × NameKind)) by kernel_rfl]; decide) (by intro y hy; simp only [List.mem_cons, List.not_mem_nil, or_false] at hy; rcases hy with rfl | rfl <;> kernel_rfl) (fun h₀ hns up => ?_) (by kernel_rfl) (by kernel_rfl) (by kernel_rfl)
  generalize hL : h.objs.size = L at hns ⊢
  have kd : ∀ y, (callEnv (fdK 3 [("mycmp", cc + 100)] (.ref (b 14 + 100)) (.ref (b 8 + 100)) t1) L (b 15 + 100)).kindOf y = (fdK 3 [("mycmp", cc + 100)] (.ref (b 14 + 100)) (.ref (b 8 + 100)) t1).scope.names.lookup y := fun y => rfl
  have hcell : h₀.IsCell (cc + 100) (some (.ref fa)) := ⟨_, up _ _ (kb (cc + 100, co) (by simp [KB])), hco⟩
  rw [bdI3]
  replace up : Up h h₀ := up
  obtain ⟨ob, fd, hf1, hf2⟩ := Df.fn
  have rm' := rm.deep (env := callEnv (fdK 3 [("mycmp", cc + 100)] (.ref (b 14 + 100)) (.ref (b 8 + 100)) t1) L (b 15 + 100))
  refine wpAny_execs_cons (wpAny_Return_some (wpAny_Compare1 (Call_ (wpAny_Name (wpAny_loadName_free (by kernel_rfl) (by rw [kd]; kernel_rfl) (c := cc + 100) (by kernel_rfl) hcell ?_) (by kernel_rfl)))))
  refine callWith_def hf2 (args_cons (Attribute_any_ (wpAny_Name (wpAny_loadName_local (by kernel_rfl) (by rw [kd]; kernel_rfl) hns (v := .ref X) (by kernel_rfl) ?_) (by kernel_rfl))))
  refine get_obj rm'.hd (kc.up up) (kx.up up) fun v1 h1 t1' up1 d1 => ?_
  refine args_cons (Attribute_any_ (wpAny_Name (wpAny_loadName_local (by kernel_rfl) (by rw [kd]; kernel_rfl) (hns.keeps up1) (v := .ref Y) (by kernel_rfl) ?_) (by kernel_rfl)))
  refine get_obj rm'.hd (kc.up (up.trans up1)) (ky.up (up.trans up1)) fun v2 h2 t2' up2 d2 => ?_
  have ua := up.trans (up1.trans up2)
  refine args_nil ⟨ua _ _ hf1, ?_⟩
  refine mc _ rm' h2 h2 _ ua (.refl _) (by simp only [DenL]; exact ⟨Den.up up2 _ d1, d2, trivial⟩) _ _ _ _ _ _ fun c3 v3 h3 t3 x3 d3 => ?_
  refine wpAny_Constant_int (cm_lt (x := r) (y := 0) c3 h3 v3 _ x3.ch d3 (by simp [Den]) _ _ _ _ _ _ fun c4 v4 h4 t4 x4 d4 => ?_)
  simp only [Den] at d4
  subst d4
  exact k h4 t4 (ua.trans (x3.up.trans x4.up))
end
end Mine
namespace Mine
open PySem PySem.W PyProof.Rows
section
variable {prog : Program} {w : World} {A : Around} {g : Array GenState} {d : Drawn} {o : OsState} {c h : Heap} {t : Nat}
theorem w_fol {α : Type} {b : Bool} {m : Sem α} {k : Value → Sem α} {Q : α → Shared → Prop} {E : Value → Shared → Prop} {s : Shared} (h : wpAny (model prog w) A m Q (fun _ _ => False) s) : wpAny (model prog w) A (if b = true then m else m.tryCatch k) Q E s := by
  cases b with
  | true => rw [if_pos rfl]; exact wpAny_mono h (fun _ _ q => q) fun _ _ q => q.elim
  | false => rw [if_neg (by decide)]; exact wpAny_tryCatch (wpAny_mono h (fun _ _ q => q) fun _ _ q => q.elim)
set_option maxRecDepth 20000 in
set_option maxHeartbeats 2000000 in
theorem lt_op {Q E : Value → Shared → Prop} {n : Nat} {a fa : Addr} {X Y : Addr} {l1 l2 : List Nat} {r : Int} {stF : Stmt}
    (kc : KC w.params h a (.ref fa)) (lim : h.NoLimit) (kx : KeyAt h a X l1) (ky : KeyAt h a Y l2) (Df : IsDef h fa stF)
    (mc : ∀ A', Rm A' n → Cl prog w A' h (.ref fa) [.str l1, .str l2] (.int r)) (rm : Rm A (n + 1))
    (k : ∀ h' t', Up h h' → Q (.bool (decide (r < 0))) ⟨h', g, d, t', o⟩) :
    wpAny (model prog w) A (compareOp .Lt (.ref X) (.ref Y)) Q E ⟨h, g, d, t, o⟩ := by
  have sz := kc.lt100
  have hh := rm.hd
  obtain ⟨hs, tkk, u1, u2, v, file, t0, t1, x, tt, cc, co, T, b, st, nn, C, mb, ec, rfl, kb⟩ := kc
  obtain ⟨D1, sk1, ex⟩ := kx
  obtain ⟨D2, sk2, ey⟩ := ky
  have hB : ∀ q ∈ B2 hs tkk file u1 u2 v ++ KB w.params t0 t1 x tt file cc co T b st nn C mb ++ [(X, keyO (C + 100) D1 #[some (.str (tx l1) sk1)]), (Y, keyO (C + 100) D2 #[some (.str (tx l2) sk2)])], h.get? q.1 = some q.2 := fun q hq => by
    rcases List.mem_append.mp hq with hq | hq
    · exact kb q hq
    · rcases List.mem_cons.mp hq with rfl | hq
      · exact ex
      · rw [List.mem_singleton.mp hq]; exact ey
  have O := Own1.here sz
  show wpAny (model prog w) A (richCompare .Lt (.ref X) (.ref Y)) Q E _
  unfold richCompare
  refine wpAny_holding (wpAny_bind (wpAny_cRoomFor rm.units ?_))
  show wpAny (model prog w) A (typeOf (.ref X) >>= _) Q E _
  refine b_same hh hB O [1012] (.ref (C + 100)) (fun sup => by kernel_rfl) (fun sup => by kernel_rfl) (fun sup => by kernel_rfl) (fun sup => by kernel_rfl) fun h1 O1 => ?_
  refine b_same hh hB O1 [1013] (.ref (C + 100)) (fun sup => by kernel_rfl) (fun sup => by kernel_rfl) (fun sup => by kernel_rfl) (fun sup => by kernel_rfl) fun h2 O2 => ?_
  refine w_noB (by simp) ?_
  refine b_same hh hB O2 [] false (fun sup => by kernel_rfl) (fun sup => by kernel_rfl) (fun sup => by kernel_rfl) (fun sup => by kernel_rfl) fun h3 O3 => ?_
  refine w_noB rfl ?_
  refine wpAny_bind ?_
  refine wpAny_bind ?_
  unfold callSpecialIfBound?
  refine wpAny_holding (wpAny_bind ?_)
  unfold bindSpecialIfBound?
  refine b_same hh hB O3 [1012, 1010, 1010, 1009] (some (.ref (b 15 + 100))) (fun sup => by kernel_rfl) (fun sup => by kernel_rfl) (fun sup => by kernel_rfl) (fun sup => by kernel_rfl) fun h4 O4 => ?_
  refine b_same hh hB O4 [] ⟨prog, w.params⟩ (fun sup => by kernel_rfl) (fun sup => by kernel_rfl) (fun sup => by kernel_rfl) (fun sup => by kernel_rfl) fun h5 O5 => ?_
  refine w_fol ?_
  refine s_fin hh hB O5 [1006] (some (.ref (b 15 + 100), [.ref X])) [] t (fun sup => by kernel_rfl) (fun sup => by kernel_rfl) (fun sup => by kernel_rfl) (fun sup => by kernel_rfl) fun h6 O6 => ?_
  refine b_call hh hB O6 [] (fun sup => .call (.ref (b 15 + 100)) ⟨[.ref X, .ref Y], []⟩) (fun sup => by kernel_rfl) (fun sup => by kernel_rfl) fun sup7 h7 O7 => ?_
  have O8 := O7.pick (N2 := []) [] (by decide) (by kernel_rfl)
  refine at_toks (show _ = t by kernel_rfl) ?_
  have u5 := O8.up
  refine lt_func (stF := stF) (n := n) (r := r) (fun q hq => u5 _ _ (kb q hq)) ec (lim.keeps u5) ⟨D1, sk1, u5 _ _ ex⟩ ⟨D2, sk2, u5 _ _ ey⟩ (Df.up u5) (fun A' rr => (mc A' rr).mono u5) rm fun h9 t9 u9 => ?_
  have O9 : Own1 h h9 [] := ⟨u5.trans u9, by simp, by simp, by simp, (KC.up (p := w.params) (f := .ref fa) ⟨hs, tkk, u1, u2, v, file, t0, t1, x, tt, cc, co, T, b, st, nn, C, mb, ec, rfl, kb⟩ (u5.trans u9)).lt100⟩
  refine s_fin hh hB O9 [] (.bool (decide (r < 0))) [] t9 (fun sup => by kernel_rfl) (fun sup => by kernel_rfl) (fun sup => by kernel_rfl) (fun sup => by kernel_rfl) fun h10 O10 => ?_
  refine wpAny_pure (wpAny_pure ?_)
  exact wpAny_pure (k h10 t9 O10.up)
end
end Mine
namespace Mine
open PySem PySem.W PyProof.Rows
theorem cls_stm : clsStm = .ClassDef "K" [.Name "object" ⟨4, 12, 4, 18⟩] [] clsBody [] [] clsScope none "K" clsStatics clsPos := by kernel_rfl
theorem ctk_body : bodyOf (stm 1) = [clsStm, .Return (some (.Name "K" ⟨26, 11, 26, 12⟩)) ⟨26, 4, 26, 12⟩] := by kernel_rfl
noncomputable def argsOf : Stmt → Arguments
  | .FunctionDef _ a _ _ _ _ _ _ _ _ => a
  | _ => ⟨[], [], none, [], [], none, []⟩
/-- the def of cmp_to_key, whole -/
noncomputable def IsCtk (c : Heap) : Prop := ∃ nm kV doc pm an ct o, c.get? 21 = some o ∧ o.data = .func (fnOf nm "cmp_to_key" (argsOf (stm 1)) (bodyOf (stm 1)) (scopeOf (stm 1)) .none kV doc pm an (.ref 20) ct)
theorem Ext.many {X : List Addr} {c h h' : Heap} (k : Up c h) (hh : UpBut X h h') (lv : ∀ a ∈ X, ∀ o, h.get? a = some o → ∃ o', h'.get? a = some o') (cx : ∀ a ∈ X, c.get? a = none) (as : List Addr) (nw : ∀ a ∈ as, h.get? a = none) :
    ∃ c', Ext X c h c' h' ∧ ∀ a ∈ as, ∀ o, h'.get? a = some o → c'.get? a = some o := by
  have uc : Up c h' := fun b o e => hh b o (fun q => by rw [cx b q] at e; cases e) (k b o e)
  refine ⟨hideAll h' ((List.range h'.objs.size).filter fun b => !(as.contains b) && (c.get? b).isNone), ⟨fun b o' e' => ?_, fun b o' e' => of_hideAll _ e', hh, fun b o' e' => ?_, fun b o' e' => ?_⟩, fun a ha o e => ?_⟩
  · refine hideAll_get _ (uc _ _ e') fun q => ?_
    have := (List.mem_filter.mp q).2
    simp [e'] at this
  · by_cases hb : b ∈ X
    · exact lv b hb o' e'
    · exact ⟨o', hh b o' hb e'⟩
  · by_cases hb : b ∈ as
    · exact .inr (nw b hb)
    · have e2 := of_hideAll _ e'
      cases q : c.get? b with
      | some o2 => have := uc _ _ q; rw [e2] at this; exact .inl this.symm
      | none =>
        exfalso
        have : (hideAll h' ((List.range h'.objs.size).filter fun b => !(as.contains b) && (c.get? b).isNone)).get? b = none := hideAll_none _ (List.mem_filter.mpr ⟨List.mem_range.mpr (Heap.lt_size e2), by simp [hb, q]⟩)
        rw [e'] at this; cases this
  · refine hideAll_get _ e fun q => ?_
    have := (List.mem_filter.mp q).2
    simp [ha] at this
section
variable {prog : Program} {w : World} {A : Around} {g : Array GenState} {d : Drawn} {o : OsState} {c h : Heap} {t : Nat} {nm bn : List (Str × Value)}
end
end Mine
namespace Mine
open PySem PySem.W PyProof.Rows
section
variable {prog : Program} {w : World} {A : Around} {g : Array GenState} {d : Drawn} {o : OsState} {c h : Heap} {t : Nat}
theorem key_spec {Q E : Value → Shared → Prop} {a : Addr} {f v : Value} {l : List Nat} {n : Nat} (kc : KC w.params c a f) (lim : c.NoLimit) (u : Up c h) (rm : Rm A (n + 2)) (dv : Den c v (.str l))
    (k : ∀ X c' h' t', Ext [] c h c' h' → h.get? X = none → KeyAt c' a X l → Q (.ref X) ⟨h', g, d, t', o⟩) :
    wpAny (model prog w) A (call (.ref a) [v]) Q E ⟨h, g, d, t, o⟩ := by
  have kch := kc.up u
  have sz := kch.lt100
  simp only [Den] at dv
  obtain ⟨sk, rfl⟩ := dv
  obtain ⟨hs, tkk, u1, u2, vv, file, t0, t1, x, tt, cc, co, T, b, st, nn, C, mb, ec, rfl, kb⟩ := kch
  refine key_call rm.hd (by have := rm.dp; show A.depth + 1 < 1000; lia) (lim.keeps u) kb (.here sz) fun D X h' t' O' => ?_
  have nX : h.get? (X + 100) = none := O'.nc (X + 100, _) (.tail _ (.head _))
  obtain ⟨c', x', e'⟩ := Ext.alloc (c := c) (h := h) (h' := h') u O'.up nX (O'.get 1 rfl)
  exact k _ c' h' t' x' nX ⟨_, sk, e'⟩
/-- the text within a key -/
noncomputable def keyText (c : Heap) : Value → List Nat
  | .ref X => match c.get? X with
    | some o => (match o.slots.toList with
      | [some (Value.str s _)] => s.cps.toList
      | _ => [])
    | none => []
  | _ => []
theorem KeyAt.text {a X : Addr} {l : List Nat} (k : KeyAt c a X l) : keyText c (.ref X) = l := by
  obtain ⟨D, sk, e⟩ := k
  simp [keyText, e, keyO, tx]
end
end Mine
namespace Mine
open PySem PySem.W PyProof.Rows
section
variable {prog : Program} {w : World} {A : Around} {g : Array GenState} {d : Drawn} {o : OsState} {c h : Heap} {t : Nat}
theorem keeper_K {Q : Keeper → Shared → Prop} {E : Value → Shared → Prop} {a : Addr} {f : Value} (hh : A.handled = none) (kc : KC w.params h a f) (k : ∀ h', Up h h' → Q .machine ⟨h', g, d, t, o⟩) :
    wpAny (model prog w) A (keeperOf (.ref a)) Q E ⟨h, g, d, t, o⟩ := by
  have sz := kc.lt100
  obtain ⟨hs, tkk, u1, u2, vv, file, t0, t1, x, tt, cc, co, T, b, st, nn, C, mb, ec, rfl, kb⟩ := kc
  exact s_fin hh kb (.here sz) [1010, 1010] .machine [] t (fun sup => by kernel_rfl) (fun sup => by kernel_rfl) (fun sup => by kernel_rfl) (fun sup => by kernel_rfl) fun h' O' => k h' O'.up
theorem callWith_K {env : Env} {pos : Pos} {e : Expr} {a : Addr} {f : Value} {s : Shared} {Q E : Value → Shared → Prop} (hh : A.handled = none)
    (k : wpAny (model prog w) A (eval e env) (fun v s₁ => ∃ h1 t1, s₁ = ⟨h1, g, d, t1, o⟩ ∧ KC w.params h1 a f ∧ ∀ h2, Up h1 h2 → wpAny (model prog w) A (call (.ref a) [v]) Q E ⟨h2, g, d, t1, o⟩) E s)
    (hs : starEach [e] env = [(false, eval e env)] := by rfl) :
    wpAny (model prog w) A (callWith pos (.ref a) [] (backTo pos (starEach [e] env)) []) Q E s := by
  rw [hs]
  unfold callWith
  refine wpAny_bind (wpAny_holding (Calls.evalArgs_plain (Calls.spliced_cons (wpAny_mono k (fun v s₁ q => Calls.spliced_nil (wpAny_bind (wpAny_standAt ?_))) fun _ _ q => q))))
  obtain ⟨h1, t1, rfl, kc, q⟩ := q
  refine wpAny_bind (keeper_K hh kc fun h2 u2 => ?_)
  exact wpAny_bind (wpAny_mono (q h2 u2) (fun r s₂ hr => wpAny_bind (wpAny_holding (wpAny_point (wpAny_pure hr)))) fun _ _ q => q)
end
end Mine
namespace Mine
open PySem PySem.W PyProof.Rows
namespace HL
abbrev vt (xs : List Value) (i : Nat) : Value := xs.getD i .none
theorem vt_set_self {xs : List Value} {i : Nat} {v : Value} (h : i < xs.length) : vt (xs.set i v) i = v := by simp [vt, List.getD_eq_getElem?_getD, h]
theorem vt_set_ne {xs : List Value} {i j : Nat} {v : Value} (h : i ≠ j) : vt (xs.set i v) j = vt xs j := by simp [vt, List.getD_eq_getElem?_getD, List.getElem?_set_ne h]
theorem vt_get {xs : List Value} {i : Nat} (h : i < xs.length) : vt xs i = xs[i] := by rw [vt, List.getD_eq_getElem?_getD, List.getElem?_eq_getElem h]; rfl
theorem set_swap {ys : List Value} {q c : Nat} {new : Value} (hq : q < ys.length) (hc : c < ys.length) (ne : q ≠ c) : ((ys.set q (vt ys c)).set c new).Perm (ys.set q new) := by
  have e : vt ys c = ys[c] := vt_get hc
  rw [e, List.perm_iff_count]
  intro b
  rw [List.count_set (by simpa using hc), List.count_set hq, List.count_set hq, List.getElem_set_ne ne]
  have h1 : (if ys[q] == b then 1 else 0) ≤ ys.count b := by
    split
    · rename_i h; exact List.count_pos_iff.mpr ((eq_of_beq h) ▸ List.getElem_mem hq)
    · lia
  have h2 : (if ys[c] == b then 1 else 0) ≤ ys.count b - (if ys[q] == b then 1 else 0) + (if ys[c] == b then 1 else 0) := Nat.le_add_left _ _
  lia
structure WO (lt : Value → Value → Bool) : Prop where
  tr : ∀ x y z, lt y x = false → lt z y = false → lt z x = false
  as : ∀ x y, lt x y = true → lt y x = false
noncomputable def Hp (lt : Value → Value → Bool) (p : Nat) (xs : List Value) : Prop := ∀ i, 0 < i → i < xs.length → p ≤ (i - 1) / 2 → lt (vt xs i) (vt xs ((i - 1) / 2)) = false
/-- in the subtree of p -/
inductive Desc (p : Nat) : Nat → Prop
  | self : Desc p p
  | child {i : Nat} : 0 < i → Desc p ((i - 1) / 2) → Desc p i
theorem Desc.ge {p i : Nat} (d : Desc p i) : p ≤ i := by
  induction d with
  | self => exact Nat.le_refl _
  | child h _ ih => lia
theorem Desc.up {p i : Nat} (d : Desc p i) (h : p < i) : Desc p ((i - 1) / 2) := by
  cases d with
  | self => lia
  | child _ d => exact d
variable {lt : Value → Value → Bool}
/-- the way up -/
theorem sd_law (W : WO lt) {p : Nat} {new : Value} : ∀ (f : Nat) (zs : List Value) (pos : Nat), pos ≤ f → pos < zs.length → Desc p pos →
    (∀ i, 0 < i → i < zs.length → i ≠ pos → (i - 1) / 2 ≠ pos → p ≤ (i - 1) / 2 → lt (vt zs i) (vt zs ((i - 1) / 2)) = false) →
    (∀ i, 0 < i → i < zs.length → (i - 1) / 2 = pos → lt (vt zs i) new = false) →
    (p < pos → ∀ i, 0 < i → i < zs.length → (i - 1) / 2 = pos → lt (vt zs i) (vt zs ((pos - 1) / 2)) = false) →
    Hp lt p (sdLoop lt new p f zs pos) ∧ (sdLoop lt new p f zs pos).Perm (zs.set pos new) := by
  have stop : ∀ (zs : List Value) (pos : Nat), pos < zs.length → Desc p pos →
      (∀ i, 0 < i → i < zs.length → i ≠ pos → (i - 1) / 2 ≠ pos → p ≤ (i - 1) / 2 → lt (vt zs i) (vt zs ((i - 1) / 2)) = false) →
      (∀ i, 0 < i → i < zs.length → (i - 1) / 2 = pos → lt (vt zs i) new = false) →
      (p < pos → lt new (vt zs ((pos - 1) / 2)) = false) → Hp lt p (zs.set pos new) := by
    intro zs pos hp hd h1 h2 h3 i i0 il ip
    rw [List.length_set] at il
    by_cases e : i = pos
    · subst e
      rw [vt_set_self hp, vt_set_ne (by lia)]
      exact h3 (by lia)
    · by_cases e2 : (i - 1) / 2 = pos
      · rw [vt_set_ne (fun z => e z.symm), e2, vt_set_self hp]; exact h2 i i0 il e2
      · rw [vt_set_ne (fun z => e z.symm), vt_set_ne (fun z => e2 z.symm)]; exact h1 i i0 il e e2 ip
  intro f
  induction f with
  | zero =>
    intro zs pos hf hp hd h1 h2 h3
    have : pos = 0 := by lia
    subst this
    unfold sdLoop
    exact ⟨stop zs 0 hp hd h1 h2 (fun q => absurd q (Nat.not_lt_zero _)), .refl _⟩
  | succ f ih =>
    intro zs pos hf hp hd h1 h2 h3
    unfold sdLoop
    by_cases hs : p < pos
    · rw [if_pos hs]
      cases hlt : lt new (zs.getD ((pos - 1) / 2) .none) with
      | false =>
        simp only [Bool.false_eq_true, if_false]
        exact ⟨stop zs pos hp hd h1 h2 (fun _ => hlt), .refl _⟩
      | true =>
        simp only [if_true]
        have hpar : (pos - 1) / 2 < zs.length := by lia
        have ne : pos ≠ (pos - 1) / 2 := by lia
        have hdp := hd.up hs
        have hge := hdp.ge
        have hn : lt (vt zs ((pos - 1) / 2)) new = false := W.as _ _ hlt
        obtain ⟨r1, r2⟩ := ih (zs.set pos (zs.getD ((pos - 1) / 2) .none)) ((pos - 1) / 2) (by lia) (by simpa using hpar) hdp
          (fun i i0 il e1 e2 e3 => by
            rw [List.length_set] at il
            have e4 : i ≠ pos := fun q => e2 (by rw [q])
            rw [vt_set_ne (fun z => e4 z.symm)]
            by_cases e5 : (i - 1) / 2 = pos
            · rw [e5, vt_set_self hp]; exact h3 hs i i0 il e5
            · rw [vt_set_ne (fun z => e5 z.symm)]; exact h1 i i0 il e4 e5 e3)
          (fun i i0 il e1 => by
            rw [List.length_set] at il
            by_cases e4 : i = pos
            · subst e4; rw [vt_set_self hp]; exact hn
            · rw [vt_set_ne (fun z => e4 z.symm)]
              have := h1 i i0 il e4 (by lia) (by lia)
              rw [e1] at this
              exact W.tr _ _ _ hn this)
          (fun hs2 i i0 il e1 => by
            rw [List.length_set] at il
            have h4 := h1 ((pos - 1) / 2) (by lia) hpar (by lia) (by lia) (hdp.up hs2).ge
            rw [vt_set_ne (j := ((pos - 1) / 2 - 1) / 2) (by lia)]
            by_cases e4 : i = pos
            · subst e4; rw [vt_set_self hp]; exact h4
            · rw [vt_set_ne (fun z => e4 z.symm)]
              have := h1 i i0 il e4 (by lia) (by lia)
              rw [e1] at this
              exact W.tr _ _ _ h4 this)
        exact ⟨r1, r2.trans (set_swap hp hpar ne)⟩
    · rw [if_neg hs]
      exact ⟨stop zs pos hp hd h1 h2 (fun q => absurd q hs), .refl _⟩
/-- the way down -/
theorem su_law (W : WO lt) {p n : Nat} {new : Value} : ∀ (f : Nat) (ys : List Value) (q : Nat), ys.length = n → n ≤ f + q → q < n → Desc p q →
    (∀ i, 0 < i → i < n → i ≠ q → (i - 1) / 2 ≠ q → p ≤ (i - 1) / 2 → lt (vt ys i) (vt ys ((i - 1) / 2)) = false) →
    (p < q → ∀ i, 0 < i → i < n → (i - 1) / 2 = q → lt (vt ys i) (vt ys ((q - 1) / 2)) = false) →
    ∃ zs r, suLoop lt n f ys q = (zs, r) ∧ zs.length = n ∧ r < n ∧ n ≤ 2 * r + 1 ∧ Desc p r ∧ (∀ i, 0 < i → i < n → i ≠ r → (i - 1) / 2 ≠ r → p ≤ (i - 1) / 2 → lt (vt zs i) (vt zs ((i - 1) / 2)) = false) ∧ (zs.set r new).Perm (ys.set q new) := by
  intro f
  induction f with
  | zero => intro ys q hl hf hq; lia
  | succ f ih =>
    intro ys q hl hf hq hd h1 h2
    unfold suLoop
    by_cases hs : 2 * q + 1 < n
    · rw [if_pos hs]
      have hc1 : (child lt n ys q - 1) / 2 = q := by unfold child; split <;> lia
      have hc2 : child lt n ys q < n := by
        unfold child; split
        · rename_i z; exact z.1
        · lia
      have hc3 : 0 < child lt n ys q := by unfold child; split <;> lia
      have hcm : ∀ i, 0 < i → i < n → (i - 1) / 2 = q → i ≠ child lt n ys q → lt (vt ys i) (vt ys (child lt n ys q)) = false := by
        intro i i0 il e ne
        unfold child at ne ⊢
        split
        · rename_i z
          rw [if_pos z] at ne
          have : i = 2 * q + 1 := by lia
          rw [this]; exact z.2
        · rename_i z
          rw [if_neg z] at ne
          simp only [not_and, Bool.not_eq_false] at z
          have : i = 2 * q + 2 := by lia
          rw [this] at il ⊢
          exact W.as _ _ (z il)
      generalize child lt n ys q = c at hc1 hc2 hc3 hcm ⊢
      have ne : q ≠ c := by lia
      have hq' : q < ys.length := hl ▸ hq
      have hc' : c < ys.length := hl ▸ hc2
      obtain ⟨zs, r, e, z1, z2, z3, z4, z5, z6⟩ := ih (ys.set q (ys.getD c .none)) c (by simpa using hl) (by lia) hc2 (.child hc3 (by rw [hc1]; exact hd))
        (fun i i0 il e1 e2 e3 => by
          by_cases e4 : i = q
          · subst e4
            rw [vt_set_self hq', vt_set_ne (by lia)]
            exact h2 (by lia) c hc3 hc2 hc1
          · rw [vt_set_ne (fun z => e4 z.symm)]
            by_cases e5 : (i - 1) / 2 = q
            · rw [e5, vt_set_self hq']; exact hcm i i0 il e5 e1
            · rw [vt_set_ne (fun z => e5 z.symm)]; exact h1 i i0 il e4 e5 e3)
        (fun _ i i0 il e1 => by
          rw [hc1, vt_set_self hq', vt_set_ne (by lia)]
          have hge := hd.ge
          have := h1 i i0 il (by lia) (by lia) (by lia)
          rw [e1] at this; exact this)
      exact ⟨zs, r, e, z1, z2, z3, z4, z5, z6.trans (set_swap hq' hc' ne)⟩
    · rw [if_neg hs]
      exact ⟨ys, q, rfl, hl, hq, by lia, hd, h1, .refl _⟩
theorem siftup_law (W : WO lt) {xs : List Value} {p : Nat} (hp : p < xs.length) (h : Hp lt (p + 1) xs) : Hp lt p (siftup lt xs p) ∧ (siftup lt xs p).Perm xs := by
  obtain ⟨zs, r, e, z1, z2, z3, z4, z5, z6⟩ := su_law (lt := lt) W (p := p) (new := vt xs p) xs.length xs p rfl (by lia) hp .self (fun i i0 il e1 e2 e3 => h i i0 il (by lia)) (fun q => absurd q (Nat.lt_irrefl _))
  unfold siftup
  rw [e]
  dsimp only
  have hr : r < zs.length := z1 ▸ z2
  unfold siftdown
  have e2 : (zs.set r (xs.getD p .none)).getD r .none = vt xs p := vt_set_self hr
  rw [e2]
  obtain ⟨a, b⟩ := sd_law W (p := p) (new := vt xs p) r (zs.set r (xs.getD p .none)) r (Nat.le_refl _) (by simpa using hr) z4
    (fun i i0 il e1 e2 e3 => by
      rw [List.length_set] at il
      rw [vt_set_ne (fun z => e1 z.symm), vt_set_ne (fun z => e2 z.symm)]
      exact z5 i i0 (z1 ▸ il) e1 e2 e3)
    (fun i i0 il e1 => by rw [List.length_set] at il; lia) (fun _ i i0 il e1 => by rw [List.length_set] at il; lia)
  refine ⟨a, b.trans ?_⟩
  rw [List.set_set]
  refine z6.trans ?_
  have : xs.set p (vt xs p) = xs := by
    have : vt xs p = xs[p] := vt_get hp
    rw [this, List.set_getElem_self]
  rw [this]
theorem hify_law (W : WO lt) (xs : List Value) : Hp lt 0 (hify lt xs) ∧ (hify lt xs).Perm xs := by
  have key : ∀ k, k ≤ xs.length / 2 → ∀ ys : List Value, Hp lt k ys → ys.Perm xs → Hp lt 0 ((List.range k).reverse.foldl (fun ys i => siftup lt ys i) ys) ∧ ((List.range k).reverse.foldl (fun ys i => siftup lt ys i) ys).Perm xs := by
    intro k
    induction k with
    | zero => intro _ ys h p; exact ⟨h, p⟩
    | succ k ih =>
      intro hk ys h p
      rw [List.range_succ, List.reverse_append, List.reverse_singleton, List.singleton_append, List.foldl_cons]
      obtain ⟨a, b⟩ := siftup_law W (xs := ys) (p := k) (by rw [p.length_eq]; lia) h
      exact ih (by lia) _ a (b.trans p)
  exact key _ (Nat.le_refl _) xs (fun i i0 il e => by lia) (.refl _)
theorem hpush_law (W : WO lt) {xs : List Value} {v : Value} (h : Hp lt 0 xs) : Hp lt 0 (hpush lt xs v) ∧ (hpush lt xs v).Perm (v :: xs) := by
  unfold hpush siftdown
  have e : (xs ++ [v]).getD xs.length .none = v := by simp [List.getD_eq_getElem?_getD]
  rw [e]
  have hv : ∀ i, i < xs.length → vt (xs ++ [v]) i = vt xs i := fun i hi => by simp [vt, List.getD_eq_getElem?_getD, List.getElem?_append_left hi]
  have dd : ∀ i, Desc 0 i := fun i => by
    induction i using Nat.strongRecOn with
    | ind i ih =>
      rcases Nat.eq_zero_or_pos i with rfl | hi
      · exact .self
      · exact .child hi (ih _ (by lia))
  obtain ⟨a, b⟩ := sd_law W (p := 0) (new := v) xs.length (xs ++ [v]) xs.length (Nat.le_refl _) (by simp) (dd _)
    (fun i i0 il e1 e2 e3 => by
      rw [List.length_append, List.length_singleton] at il
      rw [hv i (by lia), hv _ (by lia)]; exact h i i0 (by lia) e3)
    (fun i i0 il e1 => by rw [List.length_append, List.length_singleton] at il; lia) (fun _ i i0 il e1 => by rw [List.length_append, List.length_singleton] at il; lia)
  refine ⟨a, b.trans ?_⟩
  have : (xs ++ [v]).set xs.length v = xs ++ [v] := by simp
  rw [this]
  exact List.perm_append_singleton v xs
theorem top_le (W : WO lt) {xs : List Value} (h : Hp lt 0 xs) : ∀ i, i < xs.length → lt (vt xs i) (vt xs 0) = false := by
  intro i
  induction i using Nat.strongRecOn with
  | ind i ih =>
    intro hi
    rcases Nat.eq_zero_or_pos i with rfl | i0
    · cases e : lt (vt xs 0) (vt xs 0) with
      | false => rfl
      | true => have := W.as _ _ e; rw [e] at this; cases this
    · exact W.tr _ _ _ (ih ((i - 1) / 2) (by lia) (by lia)) (h i i0 hi (Nat.zero_le _))
theorem hpop_law (W : WO lt) {xs : List Value} {last : Value} (h : Hp lt 0 (xs ++ [last])) : Hp lt 0 (hpopL lt xs last) ∧ (hpopV xs last :: hpopL lt xs last).Perm (xs ++ [last]) ∧ ∀ v ∈ xs ++ [last], lt v (hpopV xs last) = false := by
  have top : ∀ v ∈ xs ++ [last], lt v (vt (xs ++ [last]) 0) = false := fun v hv => by
    obtain ⟨i, hi, rfl⟩ := List.mem_iff_getElem.mp hv
    have := top_le W h i hi
    have e : vt (xs ++ [last]) i = (xs ++ [last])[i] := vt_get hi
    rw [e] at this; exact this
  cases xs with
  | nil => exact ⟨fun i i0 il => by simp [hpopL] at il, by simp [hpopV, hpopL], top⟩
  | cons x r =>
    refine ⟨?_, ?_, top⟩
    · refine (siftup_law W (xs := last :: r) (p := 0) (by simp) ?_).1
      intro i i0 il e
      have hv : ∀ j, 0 < j → j < (last :: r).length → vt (last :: r) j = vt ((x :: r) ++ [last]) j := fun j j0 hj => by
        cases j with
        | zero => lia
        | succ j => simp at hj; simp [vt, List.getD_eq_getElem?_getD, List.getElem?_append_left hj]
      rw [hv i i0 il, hv ((i - 1) / 2) (by lia) (by lia)]
      exact h i i0 (by simp at il ⊢; lia) (Nat.zero_le _)
    · refine ((siftup_law W (xs := last :: r) (p := 0) (by simp) ?_).2.cons x).trans ?_
      · intro i i0 il e
        have hv : ∀ j, 0 < j → j < (last :: r).length → vt (last :: r) j = vt ((x :: r) ++ [last]) j := fun j j0 hj => by
          cases j with
          | zero => lia
          | succ j => simp at hj; simp [vt, List.getD_eq_getElem?_getD, List.getElem?_append_left hj]
        rw [hv i i0 il, hv ((i - 1) / 2) (by lia) (by lia)]
        exact h i i0 (by simp at il ⊢; lia) (Nat.zero_le _)
      · exact (List.perm_append_singleton last r).symm.cons x
end HL
end Mine
namespace Mine
open PySem PySem.W PyProof.Rows
/-- the keys Xs of the texts ls -/
noncomputable def KeysOf (c : Heap) (a : Addr) (Xs : List Addr) (ls : List (List Nat)) : Prop := Xs.length = ls.length ∧ Xs.Nodup ∧ ∀ (i : Nat) (X : Addr) (l : List Nat), Xs[i]? = some X → ls[i]? = some l → KeyAt c a X l
theorem KeyAt.nl {c c' : Heap} {a X : Addr} {l : List Nat} (k : KeyAt c a X l) (u : UpNL c c') : KeyAt c' a X l := let ⟨D, sk, e⟩ := k; ⟨D, sk, u _ _ e (fun xs n q => by cases q)⟩
theorem KeysOf.nl {c c' : Heap} {a : Addr} {Xs : List Addr} {ls : List (List Nat)} (k : KeysOf c a Xs ls) (u : UpNL c c') : KeysOf c' a Xs ls := ⟨k.1, k.2.1, fun i X l e1 e2 => (k.2.2 i X l e1 e2).nl u⟩
theorem KeysOf.up {c c' : Heap} {a : Addr} {Xs : List Addr} {ls : List (List Nat)} (k : KeysOf c a Xs ls) (u : Up c c') : KeysOf c' a Xs ls := k.nl u.nl
theorem KeysOf.snoc {c : Heap} {a X : Addr} {l : List Nat} {Xs : List Addr} {ls : List (List Nat)} (k : KeysOf c a Xs ls) (n : X ∉ Xs) (kx : KeyAt c a X l) : KeysOf c a (Xs ++ [X]) (ls ++ [l]) := by
  obtain ⟨k1, k2, k3⟩ := k
  refine ⟨by simp [k1], ?_, fun i Y m e1 e2 => ?_⟩
  · rw [List.nodup_append]
    exact ⟨k2, by simp, fun x hx y hy e => n (by rw [List.mem_singleton.mp hy] at e; exact e ▸ hx)⟩
  · rw [List.getElem?_append] at e1 e2
    split at e1
    · rename_i z; rw [if_pos (k1 ▸ z)] at e2; exact k3 i Y m e1 e2
    · rename_i z; rw [if_neg (k1 ▸ z)] at e2
      rw [List.getElem?_singleton] at e1 e2
      split at e1
      · rename_i z2
        rw [if_pos (by lia)] at e2
        cases e1; cases e2; exact kx
      · cases e1
theorem KeysOf.alive {c : Heap} {a X : Addr} {Xs : List Addr} {ls : List (List Nat)} (k : KeysOf c a Xs ls) (m : X ∈ Xs) : ∃ l, KeyAt c a X l := by
  obtain ⟨i, hi, rfl⟩ := List.mem_iff_getElem.mp m
  exact ⟨ls[i]'(k.1 ▸ hi), k.2.2 i _ _ (List.getElem?_eq_getElem hi) (List.getElem?_eq_getElem (k.1 ▸ hi))⟩
section
variable {prog : Program} {w : World} {A : Around} {K c c' h h' : Heap} {G : Org} {env cenv : Env} {ρ ρ' : Vars} {R R' : Led} {g : Array GenState} {d : Drawn} {t : Nat} {o : OsState}
theorem keys_loop {scope : Scope} {key x sv : Str} {p1 p2 p3 tp ip pos : Pos} {a : Addr} {f : Value} {ls : List (List Nat)} {n : Nat} {c0 c1 h2 : Heap} {t2 : Nat} {D I : Addr} {fp wr : List Addr} {Si : Nat → Heap → Prop} {RR : Result → Shared → Prop} {P : Heap → List PV → Prop}
    (kc : KC w.params K a f) (lim : K.NoLimit) (rm : Rm A (n + 2)) (u0 : Up K c0) (hz : ls.length < 1000) (ce : CEnv env cenv [] [x]) (uc : Up c0 c1) (S : Src prog w A c1 (.Name x tp) [x] I fp wr (ls.map fun l => [PV.str l]) Si) (hs : Si 0 h2)
    (F2 : Fr G c1 cenv ([x].map (fun x => (x, none)) ++ [(key, some (.val (.ref a)))]) [(D, [])] h2) (off : Off G c1 cenv [(D, [])] wr) (hP : ∀ c Xs, KeysOf c a Xs ls → P c (Xs.map fun X => PV.val (.ref X)))
    (kk : ∀ c' ρ' ys h' t', Fr G c' cenv ρ' [(D, ys)] h' → P c' ys → RR (.ok .next) ⟨h', g, d, t', o⟩) :
    codeAny (model prog w) A (.compLoop (.ListComp (.Call (.Name key p1) [.Name x p2] [] p3) [⟨.Name x tp, .Name sv ip, [], 0⟩] scope pos) 0 (.ref I) (.ref D) cenv) RR ⟨h2, g, d, t2, o⟩ := by
  have hh := rm.hd
  have um : Up K c1 := u0.trans uc
  refine comp_loop (fun it acc => turn1X ..) S (fun ops => [x].zip ops ++ [(key, some (.val (.ref a)))]) (fun ops its hl hm => ?_) (.inr ce.l) (fun _ => true) (fun i ys c => ∃ Xs : List Addr, ys = Xs.map (fun X => PV.val (.ref X)) ∧ KeysOf c a Xs (ls.take i)) (fun i ys c c' q ⟨Xs, e, kk⟩ => ⟨Xs, e, kk.up q⟩)
    (.refl _) (by simp : ([none] : List (Option PV)).length = [x].length) F2 off hs ⟨[], rfl, rfl, by simp, by simp⟩ (fun i its ys hi => evi_nil) (fun i its ys c hi hk => by cases hk)
    (fun i its ys G c h g d t o Q E hi _ hj u' F kk => ?_) (fun i ys c hj => ?_) (fun c' ops ys h' t' hl uc' hj F' off' => kk c' _ ys h' t' F' ?_)
  · obtain ⟨l, hl2, rfl⟩ := List.mem_map.mp hm
    exact ⟨.zip hl rfl, rfl⟩
  · obtain ⟨Xs, rfl, k1⟩ := hj
    obtain ⟨l, hl, rfl⟩ : ∃ l, ls[i]? = some l ∧ its = [.str l] := by
      rw [List.getElem?_map] at hi
      cases e : ls[i]? with
      | none => rw [e] at hi; cases hi
      | some l => rw [e] at hi; exact ⟨l, rfl, by simpa using hi.symm⟩
    refine Call_ (F.ld (x := key) (p := .val (.ref a)) (by simp) fun v dv => ?_)
    simp only [Den] at dv; subst dv
    refine callWith_K hh (F.ld (x := x) (p := .str l) (by simp) fun v dv => ⟨h, t, rfl, ((kc.up um).up u').up F.up, fun h2 uh => ?_⟩)
    refine key_spec (n := n) ((kc.up um).up u') (lim.keeps (um.trans u')) (F.up.trans uh) rm dv fun X c' h' t' x' nX kX => ?_
    have nX0 : h.get? X = none := none_up uh nX
    refine kk c' _ (.val (.ref X)) h' t' ((Ext.grow F.up uh).trans x') (by simp [Den]) ⟨Xs ++ [X], by simp, ?_⟩
    rw [List.take_add_one, hl]
    refine (k1.up x'.cc).snoc (fun m => ?_) kX
    obtain ⟨l', D', sk', e'⟩ := k1.alive m
    have := F.up _ _ e'; rw [nX0] at this; cases this
  · obtain ⟨Xs, e, k1, _⟩ := hj
    rw [e, List.length_map, k1, List.length_take]; lia
  · obtain ⟨Xs, e, k1⟩ := hj
    rw [List.length_map, List.take_length] at k1
    exact e ▸ hP _ _ k1
theorem s_keys {sc scope : Scope} {y key x sv : Str} {p1 p2 p3 tp ip pos py spos : Pos} {a : Addr} {f : Value} {ls : List (List Nat)} {n : Nat} {rest : List Stmt} {Q : Flow → Shared → Prop} {E : Value → Shared → Prop}
    (kc : KC w.params K a f) (lim : K.NoLimit) (rm : Rm A (n + 2)) (u : Up K c) (F : Fr G c env ρ R h) (Z : Froz R ρ ρ') (hsc : env.scope = sc)
    (ok : compOk sc scope [x] [key] [] = true) (nk : (x == key) = false) (mk : (key, some (.val (.ref a))) ∈ ρ') (ms : (sv, some (.list (ls.map .str))) ∈ ρ') (hz : ls.length < 1000)
    (ρ2 : Addr → Vars) (U : ∀ D, PutP y (.val (.ref D)) ρ (ρ2 D))
    (k : ∀ c' D Xs h' t', G.h.get? D = none → Up c c' → Fr G c' env (ρ2 D) ((D, Xs.map fun X => .val (.ref X)) :: R) h' → KeysOf c' a Xs ls → wpAny (model prog w) A (execs rest env) Q E ⟨h', g, d, t', o⟩)
    (gf : G.fn = true := by first | rfl | assumption)
    (hsw : swapsWith (.ListComp (.Call (.Name key p1) [.Name x p2] [] p3) [⟨.Name x tp, .Name sv ip, [], 0⟩] scope pos) (some (.Name y py)) spos.line env = pure true) :
    wpAny (model prog w) A (execs (.Assign [.Name y py] (.ListComp (.Call (.Name key p1) [.Name x p2] [] p3) [⟨.Name x tp, .Name sv ip, [], 0⟩] scope pos) spos :: rest) env) Q E ⟨h, g, d, t, o⟩ := by
  have hh := rm.hd
  refine wpAny_execs_cons (comp_asgN (caps := [(key, some (.val (.ref a)))]) (fun c ys => ∃ Xs : List Addr, ys = Xs.map (fun X => PV.val (.ref X)) ∧ KeysOf c a Xs ls) (fun c c' ys q ⟨Xs, e, kk⟩ => ⟨Xs, e, kk.nl q⟩) (fun c ys ⟨Xs, e, _⟩ p hp => by
      subst e; obtain ⟨X, _, rfl⟩ := List.mem_map.mp hp; trivial) u F Z hsc ok (by simp [mk]) ⟨[], rfl⟩ (srcE_listT (px := tp) (x := x) PV.str hh (ev_name ms)) (fun c0 u0 cenv D c1 h2 t2 I fp wr Si RR ce uc S hs F2 off kk => keys_loop (G := ⟨c0, h, [], false⟩) (P := fun c ys => ∃ Xs : List Addr, ys = Xs.map (fun X => PV.val (.ref X)) ∧ KeysOf c a Xs ls) kc lim rm u0 hz ce uc S hs F2 off (fun c Xs q => ⟨Xs, rfl, q⟩) kk) gf ρ2 U
      (fun c' D ys h' t' nD uc F' hP => by obtain ⟨Xs, rfl, kx⟩ := hP; exact k c' D Xs h' t' nD uc F' kx) hsw)
end
end Mine
namespace Mine
open PySem PySem.W PyProof.Rows
local macro_rules | `(tactic| walk_at "mem") => `(tactic| first | with_reducible exact List.mem_cons_self | (with_reducible refine List.mem_cons_of_mem _ ?_; walk_at "mem"))
local macro_rules | `(tactic| walk_at "put") => `(tactic| first | with_reducible exact PutP.head | (with_reducible apply PutP.tail; walk_at "put"))
local macro_rules | `(tactic| walk_at "args") => `(tactic| (refine args1 fun _ => ?_; intros; rfl))
local macro_rules | `(tactic| walk_at "froz") => `(tactic| first | with_reducible exact Froz.nil | (with_reducible apply Froz.lst; walk_at "mem"; walk_at "froz") | (with_reducible apply Froz.same; walk_at "froz"))
section
variable {prog : Program} {w : World} {A : Around} {K c c' h h' : Heap} {G : Org} {env : Env} {ρ ρ' : Vars} {R R' : Led} {g : Array GenState} {d : Drawn} {t : Nat} {o : OsState} {nm bn : List (Str × Value)} {ps qs : List PV}
/-- the contract of a def that gives a new list -/
noncomputable def ClF (prog : Program) (w : World) (A : Around) (K : Heap) (f : Value) (ps qs : List PV) : Prop := ∀ c h vs, Up K c → Up c h → DenL c vs ps → ∀ (g : Array GenState) (d : Drawn) (t : Nat) (o : OsState) (Q E : Value → Shared → Prop),
  (∀ c' a h' t', Ext [] c h c' h' → h.get? a = none → Den c' (.ref a) (.list qs) → Q (.ref a) ⟨h', g, d, t', o⟩) → wpAny (model prog w) A (call f vs) Q E ⟨h, g, d, t, o⟩
theorem ClF.cl {f : Value} (x : ClF prog w A K f ps qs) : Cl prog w A K f ps (.list qs) := fun c h vs u uc dv g d t o Q E k => x c h vs u uc dv g d t o Q E fun c' _ h' t' y _ dv => k c' _ h' t' y dv
theorem clF_of {f : Addr} {n : Str} {a : Arguments} {bd : List Stmt} {ds : List Expr} {ret : Option Expr} {tp : List TypeParam} {sc : Scope} {ts : Option Scope} {bn : Str} {pos : Pos} {k : Nat} {ps : List PV} {r : List PV}
    (names ls : List Str) (hdef : IsDef K f (.FunctionDef n a bd ds ret tp sc ts bn pos)) (lim : K.NoLimit) (room : Rm A (k + 1))
    (hb : ∀ vals, vals.length = names.length → ∀ nm qn kV doc pm an cd ct, bindArgs (fnOf nm qn a bd sc .none kV doc pm an cd ct) ⟨vals, []⟩ = pure (names.zip vals)) (hn : names.length = ps.length) (hls : scOk sc names ls = true)
    (run : ∀ env G c h g d t o (Q : Flow → Shared → Prop), G.fn = true → env.scope = sc → env.globals = mainGlobals → env.builtins = builtinsNs → Rm (A.deeper env) k → Up K c → Fr G c env (names.zip (ps.map some) ++ ls.map fun x => (x, none)) [] h →
      (∀ c' ρ' R' v h' t', Fr G c' env ρ' R' h' → G.h.get? v = none → Den c' (.ref v) (.list r) → Q (.ret (.ref v)) ⟨h', g, d, t', o⟩) → wpAny (model prog w) (A.deeper env) (execs bd env) Q (fun _ _ => False) ⟨h, g, d, t, o⟩) :
    ClF prog w A K (.ref f) ps r := fun c h vals u uc dv g d t o Q E kk => by
  refine enterP names ls [] (hdef.up u) uc ((lim.keeps u)) room dv (by simp) (by simp) (hb vals (by rw [dv.length, hn])) hn hls fun env h₁ t₁ e1 e2 e3 rm F => ?_
  exact run env _ c h₁ g d t₁ o _ rfl e1 e2 e3 rm u F fun c' ρ' R' v h' t' F' n dv' => kk c' v h' t' F'.ex n dv'
theorem evf_callF {func e : Expr} {args : List Expr} {pos : Pos} {f : Addr} {st : Stmt} (x1 : Ev prog w A K env ρ R func (.val (.ref f))) (D : IsDef K f st) (x2 : EvL prog w A K env ρ R pos (e :: args) ps) (y : ClF prog w A K (.ref f) ps qs)
    (he : starEach (e :: args) env = (false, eval e env) :: starEach args env := by rfl)
    (he' : eval (.Call func (e :: args) [] pos) env = (do callWith pos (← eval func env) [] (backTo pos (starEach (e :: args) env)) (backToKw pos (keywordEach [] env))) := by rfl) :
    EvF prog w A K env ρ R (.Call func (e :: args) [] pos) qs := fun G _ _ u F _ _ _ _ _ _ k => by
  obtain ⟨ob, fd, h1, h2⟩ := D.fn
  refine Call_ (x1.use u F fun c1 v1 h' t' y1 F1 d1 => ?_) he'
  simp only [Den] at d1; subst d1
  refine callWith_def h2 (x2 G _ _ (u.trans y1.cc) F1 _ _ _ _ _ _ fun c2 vs h'' t'' y2 F2 d2 => ⟨?_, ?_⟩) he
  · exact F2.up _ _ (y2.cc _ _ (y1.cc _ _ (u _ _ h1)))
  · exact y _ _ _ ((u.trans y1.cc).trans y2.cc) F2.up d2 _ _ _ _ _ _ fun _ _ _ _ y3 n3 d3 => k _ _ _ _ (y1.trans (y2.trans y3)) (none_up (y1.trans y2).up n3) d3
/-- the frame's own lists are written no more: they are told from now on -/
theorem Fr.told (F : Fr G c env ρ R h) (Z : Froz R ρ ρ') (gf : G.fn = true) (hG : ∀ b ∈ R.map (·.1), G.h.get? b = none) : ∃ c', Up c c' ∧ Fr G c' env ρ' [] h := by
  obtain ⟨F', hd⟩ := F.freezeG hG
  exact ⟨_, keepAt_up F.up, F'.retype Z hd gf⟩
end
end Mine
namespace Mine
open PySem PySem.W PyProof.Rows
local macro_rules | `(tactic| walk_at "mem") => `(tactic| first | with_reducible exact List.mem_cons_self | (with_reducible refine List.mem_cons_of_mem _ ?_; walk_at "mem"))
local macro_rules | `(tactic| walk_at "put") => `(tactic| first | with_reducible exact PutP.head | (with_reducible apply PutP.tail; walk_at "put"))
local macro_rules | `(tactic| walk_at "args") => `(tactic| (refine args1 fun _ => ?_; intros; rfl))
local macro_rules | `(tactic| walk_at "rep") => `(tactic| first | with_reducible exact RepP.head | (with_reducible apply RepP.tail; walk_at "rep"))
local macro_rules | `(tactic| walk_at "froz") => `(tactic| first | with_reducible exact Froz.nil | (with_reducible apply Froz.lst; walk_at "mem"; walk_at "froz") | (with_reducible apply Froz.same; walk_at "froz"))
noncomputable def fib : Nat → Nat
  | 0 => 0
  | 1 => 1
  | n + 2 => fib n + fib (n + 1)
noncomputable def fibL (n : Nat) : List PV := (List.range n).map fun i => PV.int (fib i : Nat)
theorem fibL_len (n : Nat) : (fibL n).length = n := by simp [fibL]
theorem fibL_at {n i : Nat} (h : i < n) : (fibL n)[i]? = some (PV.int (fib i : Nat)) := by simp [fibL, h]
theorem fibL_succ (n : Nat) : fibL (n + 1) = fibL n ++ [PV.int (fib n : Nat)] := by simp [fibL, List.range_succ]
theorem fibL_flat (n : Nat) : ∀ p ∈ fibL n, p.flat := fun p hp => by
  obtain ⟨i, _, rfl⟩ := List.mem_map.mp hp; trivial
section
variable {prog : Program} {w : World} {A : Around} {K c c' h h' : Heap} {G : Org} {env : Env} {ρ ρ' : Vars} {R R' : Led} {g : Array GenState} {d : Drawn} {t : Nat} {o : OsState} {nm bn : List (Str × Value)} {ps : List PV}
theorem evf_list {es : List Expr} {pos : Pos} (x1 : EvL prog w A K env ρ R pos es ps) (hz : ps.length < 1000000 := by simp) : EvF prog w A K env ρ R (.List es pos) ps := fun G c h u F g d t o Q E k => by
  refine List_ (x1 _ _ _ u F _ _ _ _ _ _ fun c1 vs h1 t1 y1 F1 d1 => ?_)
  obtain ⟨c', x', e'⟩ := Ext.alloc (c := c1) (h := h1) (h' := h1.push { cls := .type "list", data := .seq vs.toArray }) F1.up (up_push _) fresh_none (Heap.get?_push_size _ rfl)
  refine wpAny_newObj_type (k c' _ _ _ (y1.trans x') (none_up y1.up fresh_none) ?_) (by show vs.toArray.size ≤ sizeLine; have := d1.length; rw [sizeLine_eq]; simp; lia)
  simp only [Den]
  exact ⟨_, vs, rfl, ⟨0, e'⟩, DenL.up x'.cc _ d1⟩
/-- the frame's own list is given back -/
theorem s_retOwn {a : Addr} {x : Str} {px pos : Pos} {rest : List Stmt} {Q : Flow → Shared → Prop} {E : Value → Shared → Prop} (F : Fr G c env ρ R h) (m : (x, some (.val (.ref a))) ∈ ρ) (mr : (a, ps) ∈ R) (hG : ∀ b ∈ R.map (·.1), G.h.get? b = none)
    (k : ∀ c', Fr G c' env ρ [] h → Den c' (.ref a) (.list ps) → Q (.ret (.ref a)) ⟨h, g, d, t, o⟩) : wpAny (model prog w) A (execs (.Return (some (.Name x px)) pos :: rest) env) Q E ⟨h, g, d, t, o⟩ := by
  refine wpAny_execs_cons (wpAny_Return_some (F.ld m fun v dv => ?_))
  simp only [Den] at dv
  subst dv
  obtain ⟨F', hd⟩ := F.freezeG hG
  exact k _ F' (hd a ps mr)
set_option pp.deepTerms false
set_option maxRecDepth 20000 in
theorem law_numbers_clF {last : Nat} (D : IsDef K 104 (stm 15)) (GG : Glb K nm bn) (b1 : (("len" : Str), Value.builtin "len") ∈ bn) (room : Rm A 1) (hl : last < 1000) : ClF prog w A K (.ref 104) [.int (last : Nat)] (fibL (max 2 (last + 1))) := by
  refine clF_of ["last"] ["row"] D GG.lim room (by walk_at "args") rfl (by kernel_rfl) ?_
  intro env G c h g d t o Q gf e1 e2 e3 rm u F k
  simp only [List.map_cons, List.map_nil, List.zip_cons_cons, List.zip_nil_right, List.append_nil, List.cons_append, List.nil_append] at F
  have kk : GK env ["len"] := .of e2 e3 (by rw [e1]; kernel_rfl)
  refine s_asgN (by walk_at "froz") (evf_list (ps := fibL 2) (evl_cons ev_int (evl_cons ev_int evl_nil)) (by simp [fibL_len])) (fibL_flat 2) u F (fun a => [("last", some (.int (last : Nat))), ("row", some (.val (.ref a)))]) (fun a => by walk_at "put") ?_
  intro a c1 h1 t1 na u1 F1
  have GG1 := GG.up (u.trans u1)
  refine s_while (c := c1) (K := c1) (fun n c' h' => ∃ i, Fr G c' env [("last", some (.int (last : Nat))), ("row", some (.val (.ref a)))] [(a, fibL i)] h' ∧ 2 ≤ i ∧ i ≤ max 2 (last + 1) ∧ n + i = max 2 (last + 1))
    (fun c' h' => Fr G c' env [("last", some (.int (last : Nat))), ("row", some (.val (.ref a)))] [(a, fibL (max 2 (last + 1)))] h') (max 2 (last + 1) - 2) ⟨2, F1, by lia, by lia, by lia⟩ (.refl c1) ?_ ?_
  · rintro n c2 h2 t2 u2 ⟨i, F2, h2i, hi, hn⟩
    refine wpAny_gen fun Qt hQt => ?_
    refine F2.useZB gf (by walk_at "froz") (evb_cmp (ev_callB (ev_bi GG1 kk (by walk_at "mem") b1) (evl_cons (ev_name (by walk_at "mem")) evl_nil) (cl_len (by rw [fibL_len]; lia))) (ev_name (by walk_at "mem")) cm_le) u2 fun c3 h3 t3 x3 F3 => hQt _ _ ?_
    clear hQt Qt
    rw [fibL_len]
    by_cases hb : (i : Int) ≤ (last : Nat)
    · rw [if_pos (by simpa using hb)]
      refine wpAny_gen fun Qb hQb => ?_
      refine s_append (by walk_at "mem") (by walk_at "mem") F3 (by rw [fibL_len]; lia) ?_
      refine F3.useZ gf (by walk_at "froz") (ev_bin (ev_sub (ev_name (by walk_at "mem")) (ev_neg ev_int) (it_neg (i := 2) (p := .int (fib (i - 2) : Nat)) (by rw [fibL_len]; exact fibL_at (by lia)) (by lia) (by rw [fibL_len]; lia) (by rw [fibL_len]; lia) rfl)) (ev_sub (ev_name (by walk_at "mem")) (ev_neg ev_int) (it_neg (i := 1) (p := .int (fib (i - 1) : Nat)) (by rw [fibL_len]; exact fibL_at (by lia)) (by lia) (by rw [fibL_len]; lia) (by rw [fibL_len]; lia) rfl)) op_add) (u2.trans x3.cc) trivial fun c4 v4 h4 t4 x4 F4 d4 => ?_
      refine ⟨c4, h4, t4, _, _, rfl, F4, d4, RepP.head, fun h5 t5 F5 => ?_⟩
      refine s_nil (hQb _ _ ⟨n - 1, c4, h5, t5, by lia, x3.cc.trans x4.cc, ⟨i + 1, ?_, by lia, by lia, by lia⟩, rfl⟩)
      rw [fibL_succ]
      have : fib i = fib (i - 2) + fib (i - 1) := by
        obtain ⟨j, rfl⟩ : ∃ j, i = j + 2 := ⟨i - 2, by lia⟩
        show fib j + fib (j + 1) = _
        simp
      rw [this]
      simpa using F5
    · rw [if_neg (by simpa using hb)]
      have : i = max 2 (last + 1) := by lia
      exact ⟨c3, h3, t3, x3.cc, this ▸ F3, rfl⟩
  · intro c2 h2 t2 u2 F2
    exact s_retOwn F2 (by walk_at "mem") (by walk_at "mem") (fun b hb => by simp at hb; exact hb ▸ na) fun c3 F3 d3 => k _ _ _ _ _ _ F3 na d3
theorem law_numbers_cl {last : Nat} (D : IsDef K 104 (stm 15)) (GG : Glb K nm bn) (b1 : (("len" : Str), Value.builtin "len") ∈ bn) (room : Rm A 1) (hl : last < 1000) : Cl prog w A K (.ref 104) [.int (last : Nat)] (.list (fibL (max 2 (last + 1)))) := (law_numbers_clF D GG b1 room hl).cl
end
end Mine
namespace Mine
open PySem PySem.W PyProof.Rows
local macro_rules | `(tactic| walk_at "mem") => `(tactic| first | with_reducible exact List.mem_cons_self | (with_reducible refine List.mem_cons_of_mem _ ?_; walk_at "mem"))
local macro_rules | `(tactic| walk_at "memz") => `(tactic| ((simp only [List.map_cons, List.map_nil, List.zip_cons_cons, List.zip_nil_left, List.zip_nil_right, List.cons_append, List.nil_append]); walk_at "mem"))
local macro_rules | `(tactic| walk_at "put") => `(tactic| first | with_reducible exact PutP.head | (with_reducible apply PutP.tail; walk_at "put"))
local macro_rules | `(tactic| walk_at "args") => `(tactic| (refine args1 fun _ => ?_; intros; rfl))
/-- a list of small numbers -/
noncomputable def nats (l : List Nat) : List PV := l.map fun n => PV.int (n : Nat)
theorem nats_int (l : List Nat) : nats l = (l.map fun n : Nat => (n : Int)).map PV.int := by simp [nats]
theorem nats_len (l : List Nat) : (nats l).length = l.length := by simp [nats]
noncomputable def maxN (l : List Nat) : Nat := l.foldr max 0
theorem maxN_ge {l : List Nat} {x : Nat} (h : x ∈ l) : x ≤ maxN l := by
  induction l with
  | nil => cases h
  | cons y l ih =>
    show x ≤ max y (maxN l)
    rcases List.mem_cons.mp h with rfl | h
    · lia
    · have := ih h; lia
theorem maxN_mem (l : List Nat) : maxN l ∈ 0 :: l := by
  induction l with
  | nil => exact .head _
  | cons y l ih =>
    show max y (maxN l) ∈ 0 :: y :: l
    rcases Nat.le_total y (maxN l) with h | h
    · rw [Nat.max_eq_right h]
      rcases List.mem_cons.mp ih with q | q
      · rw [q]; exact .head _
      · exact .tail _ (.tail _ q)
    · rw [Nat.max_eq_left h]; exact .tail _ (.head _)
theorem maxN_lt {l : List Nat} {n : Nat} (h : ∀ x ∈ l, x < n) (hn : 0 < n) : maxN l < n := by
  rcases List.mem_cons.mp (maxN_mem l) with q | q
  · lia
  · exact h _ q
theorem sum_cast (l : List Nat) (f : Nat → Nat) : (l.map fun n => ((f n : Nat) : Int)).sum = ((l.map f).sum : Nat) := by
  induction l with
  | nil => rfl
  | cons x l ih => simp only [List.map_cons, List.sum_cons, ih]; lia
section
variable {prog : Program} {w : World} {A : Around} {K : Heap} {nm bn : List (Str × Value)}
/-- what the functions of the law lean on -/
structure FQ (c : Heap) (nm bn : List (Str × Value)) : Prop where
  dn : IsDef c 104 (stm 15)
  gn : (("_law_numbers" : Str), Value.ref 104) ∈ nm
  bl : (("len" : Str), Value.builtin "len") ∈ bn
  bm : (("max" : Str), Value.builtin "max") ∈ bn
  bs : (("sum" : Str), Value.builtin "sum") ∈ bn
  br : (("range" : Str), Value.type "range") ∈ bn
theorem FQ.up {c c' : Heap} (H : FQ c nm bn) (u : Up c c') : FQ c' nm bn := ⟨H.dn.up u, H.gn, H.bl, H.bm, H.bs, H.br⟩
set_option pp.deepTerms false
set_option maxRecDepth 20000 in
theorem law_sum_cl {l : List Nat} (D : IsDef K 109 (stm 16)) (N : FQ K nm bn) (GG : Glb K nm bn) (room : Rm A 2) (hl : ∀ x ∈ l, x < 900) (hz : l.length < 100000) : Cl prog w A K (.ref 109) [.list (nats l)] (.int ((l.map fib).sum : Nat)) := by
  refine cl_of ["places"] ["row"] D GG.lim room (by walk_at "args") rfl (by kernel_rfl) ?_
  intro env G c h g d t o Q gf e1 e2 e3 rm u F k
  simp only [List.map_cons, List.map_nil, List.zip_cons_cons, List.zip_nil_right, List.append_nil, List.cons_append, List.nil_append] at F
  have kk : GK env ["_law_numbers", "max", "sum"] := .of e2 e3 (by rw [e1]; kernel_rfl)
  have hh := rm.hd
  have hM := maxN_lt hl (by lia)
  have e0 : [PV.int 0] ++ nats l = ((0 :: l).map fun n : Nat => (n : Int)).map PV.int := by simp [nats]
  refine s_asg (p := .list (fibL (max 2 (maxN l + 1)))) (ev_callF (ev_glob GG kk (by walk_at "mem") N.gn) N.dn (evl_cons (ev_callB (ev_bi GG kk (by walk_at "mem") N.bm) (evl_cons (Ev.cast (congrArg PV.list e0) (ev_bin (ev_list (evl_cons ev_int evl_nil)) (ev_name (by walk_at "mem")) (op_ladd (by rw [nats_len]; simp; lia)))) evl_nil) (cl_max (M := (maxN l : Nat)) hh (List.mem_map_of_mem (f := fun n : Nat => (n : Int)) (maxN_mem l)) (fun a ha => by
    obtain ⟨x, hx, rfl⟩ := List.mem_map.mp ha
    rcases List.mem_cons.mp hx with rfl | hx
    · lia
    · have := maxN_ge hx; lia))) evl_nil) (law_numbers_cl N.dn GG N.bl rm (by lia))) u F (by walk_at "put") fun c1 h1 t1 u1 F1 => ?_
  have GG1 := GG.up (u.trans u1)
  have N1 := N.up (u.trans u1)
  have es : (l.filter fun _ => true).map (fun n => PV.int (fib n : Nat)) = (l.map fun n => ((fib n : Nat) : Int)).map PV.int := by rw [PyProof.Rows.filter_true', List.map_map]; rfl
  refine s_ret (Ev.cast (by rw [sum_cast]) (ev_callB (ev_bi GG1 kk (by walk_at "mem") N1.bs) (evl_cons (Ev.cast (congrArg PV.list es) (ev_comp1 (xs := ["place"]) (gs := []) (caps := [("row", some (.list (fibL (max 2 (maxN l + 1)))))]) (items := l) (fun n => [PV.int (n : Nat)]) (fun _ => true) (fun n => PV.int (fib n : Nat)) (srcE_listT (fun n : Nat => PV.int (n : Nat)) hh (Ev.cast (p := .list (nats l)) rfl (ev_name (by walk_at "mem")))) e1 (by kernel_rfl) (by simp) (by lia) (by simp) (fun _ _ _ _ _ => evi_nil)
    (fun cenv ce n hn _ R => ev_sub (ev_name (by walk_at "memz")) (ev_name (by walk_at "memz")) (it_item (fibL_at (by have := maxN_ge hn; lia)) (by have := hl n hn; lia))))) evl_nil) (cl_sum hh))) (.refl c1) F1 fun c' v h' t' x F' dv => k _ _ _ _ _ _ F' dv
end
end Mine
namespace Mine
open PySem PySem.W PyProof.Rows
local macro_rules | `(tactic| walk_at "mem") => `(tactic| first | with_reducible exact List.mem_cons_self | (with_reducible refine List.mem_cons_of_mem _ ?_; walk_at "mem"))
local macro_rules | `(tactic| walk_at "put") => `(tactic| first | with_reducible exact PutP.head | (with_reducible apply PutP.tail; walk_at "put"))
local macro_rules | `(tactic| walk_at "args") => `(tactic| (refine args1 fun _ => ?_; intros; rfl))
local macro_rules | `(tactic| walk_at "froz") => `(tactic| first | with_reducible exact Froz.nil | (with_reducible apply Froz.lst; walk_at "mem"; walk_at "froz") | (with_reducible apply Froz.same; walk_at "froz"))
/-- greedy: one place tried -/
noncomputable def plStep (s : Nat × List Nat) (p : Nat) : Nat × List Nat := if fib p ≤ s.1 then (s.1 - fib p, s.2 ++ [p]) else s
noncomputable def downL (L n : Nat) : List Nat := (List.range n).map fun i => L - 1 - i
/-- a number's places -/
noncomputable def places (n : Nat) : List Nat := ((downL 80 78).foldl plStep (n, [])).2
theorem fib_pos : ∀ n, 1 ≤ n → 1 ≤ fib n
  | 1, _ => by decide
  | n + 2, _ => by
    have := fib_pos (n + 1) (by lia)
    show 1 ≤ fib n + fib (n + 1)
    lia
theorem fib_le_succ : ∀ n, fib n ≤ fib (n + 1)
  | 0 => by decide
  | n + 1 => by show fib (n + 1) ≤ fib n + fib (n + 1); lia
theorem fib_mono {m n : Nat} (h : m ≤ n) : fib m ≤ fib n := by
  induction h with
  | refl => exact Nat.le_refl _
  | step _ ih => exact Nat.le_trans ih (fib_le_succ _)
theorem downL_drop (L n : Nat) (k : Nat) (h : n + k ≤ 78) (hL : L + k = 80) : downL 80 (k + n) = downL 80 k ++ downL L n := by
  unfold downL
  rw [show k + n = k + n from rfl, List.range_add, List.map_append, List.map_map]
  congr 1
  refine List.map_congr_left fun i hi => ?_
  have := List.mem_range.mp hi
  simp only [Function.comp]
  lia
theorem fold_skip (n : Nat) (acc : List Nat) : ∀ l : List Nat, (∀ p ∈ l, n < fib p) → l.foldl plStep (n, acc) = (n, acc)
  | [], _ => rfl
  | p :: l, h => by
    rw [List.foldl_cons, show plStep (n, acc) p = (n, acc) from if_neg (by have := h p (.head _); show ¬ fib p ≤ n; lia)]
    exact fold_skip n acc l fun q hq => h q (.tail _ hq)
/-- the places come out of any row that is long enough -/
theorem places_row {n L : Nat} (h3 : 3 ≤ L) (hL : L ≤ 80) (hn : n < fib (L - 1)) : places n = ((downL L (L - 2)).foldl plStep (n, [])).2 := by
  unfold places
  rw [show (78 : Nat) = (80 - L) + (L - 2) by lia, downL_drop L (L - 2) (80 - L) (by lia) (by lia), List.foldl_append, fold_skip n [] (downL 80 (80 - L)) ?_]
  intro p hp
  obtain ⟨i, hi, rfl⟩ := List.mem_map.mp hp
  have := List.mem_range.mp hi
  exact Nat.lt_of_lt_of_le hn (fib_mono (by lia))
section
variable {prog : Program} {w : World} {A : Around} {K : Heap} {nm bn : List (Str × Value)}
set_option pp.deepTerms false
set_option maxRecDepth 20000 in
theorem law_places_clF {n : Nat} (D : IsDef K 116 (stm 17)) (N : FQ K nm bn) (GG : Glb K nm bn) (room : Rm A 2) (hn : n < fib 79) : ClF prog w A K (.ref 116) [.int (n : Nat)] (nats (places n)) := by
  refine clF_of ["number"] ["row", "places", "place"] D GG.lim room (by walk_at "args") rfl (by kernel_rfl) ?_
  intro env G c h g d t o Q gf e1 e2 e3 rm u F k
  simp only [List.map_cons, List.map_nil, List.zip_cons_cons, List.zip_nil_right, List.cons_append, List.nil_append] at F
  have kk : GK env ["_law_numbers", "len", "range"] := .of e2 e3 (by rw [e1]; kernel_rfl)
  have hh := rm.hd
  refine s_asgN (ps := fibL 3) (by walk_at "froz") (evf_callF (ev_glob GG kk (by walk_at "mem") N.gn) N.dn (evl_cons ev_int evl_nil) (law_numbers_clF (last := 2) N.dn GG N.bl rm (by lia))) (fibL_flat 3) u F (fun a => [("number", some (.int (n : Nat))), ("row", some (.val (.ref a))), ("places", none), ("place", none)]) (fun a => by walk_at "put") ?_
  intro a c1 h1 t1 na u1 F1
  have GG1 := GG.up (u.trans u1)
  have N1 := N.up (u.trans u1)
  refine s_while (c := c1) (K := c1) (fun m c' h' => ∃ i, Fr G c' env [("number", some (.int (n : Nat))), ("row", some (.val (.ref a))), ("places", none), ("place", none)] [(a, fibL i)] h' ∧ 3 ≤ i ∧ i ≤ 80 ∧ m + i = 80)
    (fun c' h' => ∃ i, Fr G c' env [("number", some (.int (n : Nat))), ("row", some (.val (.ref a))), ("places", none), ("place", none)] [(a, fibL i)] h' ∧ 3 ≤ i ∧ i ≤ 80 ∧ n < fib (i - 1)) 77 ⟨3, F1, by lia, by lia, by lia⟩ (.refl c1) ?_ ?_
  · rintro m c2 h2 t2 u2 ⟨i, F2, h3, hi, hm⟩
    refine wpAny_gen fun Qt hQt => ?_
    refine F2.useZB gf (by walk_at "froz") (evb_cmp (ev_sub (ev_name (by walk_at "mem")) (ev_neg ev_int) (it_neg (i := 1) (p := .int (fib (i - 1) : Nat)) (by rw [fibL_len]; exact fibL_at (by lia)) (by lia) (by rw [fibL_len]; lia) (by rw [fibL_len]; lia) rfl)) (ev_name (by walk_at "mem")) cm_le) u2 fun c3 h3 t3 x3 F3 => hQt _ _ ?_
    clear hQt Qt
    by_cases hb : fib (i - 1) ≤ n
    · rw [if_pos (by simpa using hb)]
      refine wpAny_gen fun Qb hQb => ?_
      have hi80 : i < 80 := by
        rcases Nat.lt_or_ge i 80 with q | q
        · exact q
        · have := fib_mono (show 79 ≤ i - 1 by lia); lia
      refine s_append (by walk_at "mem") (by walk_at "mem") F3 (by rw [fibL_len]; lia) ?_
      refine F3.useZ gf (by walk_at "froz") (ev_bin (ev_sub (ev_name (by walk_at "mem")) (ev_neg ev_int) (it_neg (i := 2) (p := .int (fib (i - 2) : Nat)) (by rw [fibL_len]; exact fibL_at (by lia)) (by lia) (by rw [fibL_len]; lia) (by rw [fibL_len]; lia) rfl)) (ev_sub (ev_name (by walk_at "mem")) (ev_neg ev_int) (it_neg (i := 1) (p := .int (fib (i - 1) : Nat)) (by rw [fibL_len]; exact fibL_at (by lia)) (by lia) (by rw [fibL_len]; lia) (by rw [fibL_len]; lia) rfl)) op_add) (u2.trans x3.cc) trivial fun c4 v4 h4 t4 x4 F4 d4 => ?_
      refine ⟨c4, h4, t4, _, _, rfl, F4, d4, RepP.head, fun h5 t5 F5 => ?_⟩
      refine s_nil (hQb _ _ ⟨m - 1, c4, h5, t5, by lia, x3.cc.trans x4.cc, ⟨i + 1, ?_, by lia, by lia, by lia⟩, rfl⟩)
      rw [fibL_succ]
      have : fib i = fib (i - 2) + fib (i - 1) := by
        obtain ⟨j, rfl⟩ : ∃ j, i = j + 2 := ⟨i - 2, by lia⟩
        show fib j + fib (j + 1) = _
        simp
      rw [this]
      simpa using F5
    · rw [if_neg (by simpa using hb)]
      exact ⟨c3, h3, t3, x3.cc, ⟨i, F3, by assumption, hi, by lia⟩, rfl⟩
  · rintro c2 h2 t2 u2 ⟨L, F2, h3, hi, hL⟩
    obtain ⟨c3, u3, F3⟩ := F2.told (ρ' := [("number", some (.int (n : Nat))), ("row", some (.list (fibL L))), ("places", none), ("place", none)]) (by walk_at "froz") gf (fun b hb => by simp at hb; exact hb ▸ na)
    have GG3 := GG1.up (u2.trans u3)
    have N3 := N1.up (u2.trans u3)
    refine s_asgN (ps := []) (by walk_at "froz") (evf_list evl_nil) (by simp) (.refl c3) F3 (fun p => [("number", some (.int (n : Nat))), ("row", some (.list (fibL L))), ("places", some (.val (.ref p))), ("place", none)]) (fun a => by walk_at "put") ?_
    intro p c4 h4 t4 np u4 F4
    have GG4 := GG3.up u4
    have N4 := N3.up u4
    refine s_for (srcE_rng3 (a := L - 1) (n := L - 2) (b := 1) hh (by lia) (by lia) (by lia) (ev_bi GG4 kk (by walk_at "mem") N4.br) (Ev.cast (p := .int (((fibL L).length : Nat) - 1)) (by rw [fibL_len]; exact congrArg PV.int (by lia)) (ev_bin (ev_callB (ev_bi GG4 kk (by walk_at "mem") N4.bl) (evl_cons (ev_name (by walk_at "mem")) evl_nil) (cl_len (by rw [fibL_len]; lia))) ev_int op_sub)) ev_int (ev_neg ev_int))
      (fun y : (Nat × List Nat) × Option PV => [("number", some (.int (y.1.1 : Nat))), ("row", some (.list (fibL L))), ("places", some (.val (.ref p))), ("place", y.2)])
      (fun y its => [("number", some (.int (y.1.1 : Nat))), ("row", some (.list (fibL L))), ("places", some (.val (.ref p))), ("place", some (its.headD (.int 0)))])
      (fun y => [(p, nats y.1.2)]) (fun i y _ => y.1 = (downL L i).foldl plStep (n, [])) ((n, []), none) rfl rfl F4 (.refl c4) (fun _ _ => rfl) (fun y its hm => by
        obtain ⟨a, _, rfl⟩ := List.mem_map.mp hm
        exact .cons (.tail (.tail (.tail .head))) .nil) ?_ ?_
    · rintro i its G2 c5 y h5 t5 hi5 gf2 u5 hy F5 back
      obtain ⟨hi1, rfl⟩ : i < L - 2 ∧ its = [PV.int ((L - 1 - i : Nat) : Int)] := by
        rw [List.getElem?_map] at hi5
        cases e : (List.range (L - 2))[i]? with
        | none => rw [e] at hi5; cases hi5
        | some a =>
          rw [e] at hi5
          obtain ⟨hl, ha⟩ := List.getElem?_eq_some_iff.mp e
          simp at ha hl hi5
          subst ha
          exact ⟨hl, hi5.symm⟩
      replace F5 : Fr G2 c5 env [("number", some (.int (y.1.1 : Nat))), ("row", some (.list (fibL L))), ("places", some (.val (.ref p))), ("place", some (.int ((L - 1 - i : Nat) : Int)))] [(p, nats y.1.2)] h5 := F5
      have hnext : (downL L (i + 1)).foldl plStep (n, []) = plStep y.1 (L - 1 - i) := by
        rw [hy]; simp [downL, List.range_succ]
      have hacc : y.1.2.length ≤ i := by
        rw [hy]
        have : ∀ (l : List Nat) (s : Nat × List Nat), (l.foldl plStep s).2.length ≤ s.2.length + l.length := by
          intro l
          induction l with
          | nil => intro s; simp
          | cons q l ih =>
            intro s
            rw [List.foldl_cons]
            have := ih (plStep s q)
            have h1 : (plStep s q).2.length ≤ s.2.length + 1 := by unfold plStep; split <;> simp
            simp only [List.length_cons]
            lia
        have := this (downL L i) (n, [])
        simpa [downL] using this
      refine wpAny_gen fun Qb hQb => ?_
      refine s_if (b := decide (((fib (L - 1 - i) : Nat) : Int) ≤ (y.1.1 : Nat))) (evb_cmp (ev_sub (ev_name (by walk_at "mem")) (ev_name (by walk_at "mem")) (it_item (fibL_at (by lia)) (by lia))) (ev_name (by walk_at "mem")) cm_le) (.refl c5) F5 fun c6 h6 t6 u6 F6 => ?_
      by_cases hb : fib (L - 1 - i) ≤ y.1.1
      · rw [if_pos (by simpa using hb)]
        refine s_aug (by walk_at "mem") (ev_sub (ev_name (by walk_at "mem")) (ev_name (by walk_at "mem")) (it_item (fibL_at (by lia)) (by lia))) in_sub (.refl c6) F6 (by walk_at "put") fun c7 h7 t7 u7 F7 => ?_
        refine s_append (by walk_at "mem") (by walk_at "mem") F7 (by rw [nats_len]; lia) ?_
        refine F7.useZ (p := .int ((L - 1 - i : Nat) : Int)) gf2 (by walk_at "froz") (ev_name (by walk_at "mem")) (.refl c7) trivial fun c8 v8 h8 t8 x8 F8 d8 => ?_
        refine ⟨c8, h8, t8, _, _, rfl, F8, d8, RepP.head, fun h9 t9 F9 => ?_⟩
        refine s_nil (s_nil (hQb _ _ ⟨c8, (plStep y.1 (L - 1 - i), some (.int ((L - 1 - i : Nat) : Int))), h9, t9, hnext.symm, ?_, rfl⟩))
        have e1 : plStep y.1 (L - 1 - i) = (y.1.1 - fib (L - 1 - i), y.1.2 ++ [L - 1 - i]) := if_pos hb
        rw [e1]
        have e2 : (((y.1.1 - fib (L - 1 - i) : Nat)) : Int) = (y.1.1 : Nat) - (fib (L - 1 - i) : Nat) := by lia
        simp only [e2, nats, List.map_append, List.map_cons, List.map_nil]
        exact F9
      · rw [if_neg (by simpa using hb)]
        have e1 : plStep y.1 (L - 1 - i) = y.1 := if_neg hb
        exact s_nil (s_nil (hQb _ _ ⟨c6, (y.1, some (.int ((L - 1 - i : Nat) : Int))), h6, t6, by rw [hnext, e1], F6, rfl⟩))
    · rintro c5 y h5 t5 u5 hy F5
      have hy' : y.1.2 = places n := by
        rw [places_row h3 hi hL, hy]; simp
      rw [hy'] at F5
      exact s_retOwn F5 (by walk_at "mem") (by walk_at "mem") (fun b hb => by simp at hb; exact hb ▸ np) fun c6 F6 d6 => k _ _ _ _ _ _ F6 np d6
end
end Mine
namespace Mine
open PySem PySem.W PyProof.Rows
local macro_rules | `(tactic| walk_at "mem") => `(tactic| first | with_reducible exact List.mem_cons_self | (with_reducible refine List.mem_cons_of_mem _ ?_; walk_at "mem"))
local macro_rules | `(tactic| walk_at "memz") => `(tactic| ((simp only [List.map_cons, List.map_nil, List.zip_cons_cons, List.zip_nil_left, List.zip_nil_right, List.cons_append, List.nil_append]); walk_at "mem"))
local macro_rules | `(tactic| walk_at "put") => `(tactic| first | with_reducible exact PutP.head | (with_reducible apply PutP.tail; walk_at "put"))
local macro_rules | `(tactic| walk_at "args") => `(tactic| (refine args1 fun _ => ?_; intros; rfl))
/-- all sums of places, one of each number -/
noncomputable def allSums (ns : List Nat) : List Nat := ns.foldl (fun s n => s.flatMap fun t => (places n).map fun p => t + p) [0]
theorem plen_le (l : List Nat) (s : Nat × List Nat) : (l.foldl plStep s).2.length ≤ s.2.length + l.length := by
  induction l generalizing s with
  | nil => simp
  | cons q l ih =>
    rw [List.foldl_cons]
    have := ih (plStep s q)
    have h1 : (plStep s q).2.length ≤ s.2.length + 1 := by unfold plStep; split <;> simp
    simp only [List.length_cons]
    lia
theorem places_len (n : Nat) : (places n).length ≤ 78 := by
  have := plen_le (downL 80 78) (n, [])
  simpa [places, downL] using this
theorem flat_len {α β : Type} (l : List α) (f : α → List β) (k : Nat) (h : ∀ a ∈ l, (f a).length ≤ k) : (l.flatMap f).length ≤ l.length * k := by
  induction l with
  | nil => simp
  | cons a l ih =>
    have h1 := h a (.head _)
    have h2 := ih fun b hb => h b (.tail _ hb)
    simp only [List.flatMap_cons, List.length_append, List.length_cons, Nat.succ_mul]
    lia
section
variable {prog : Program} {w : World} {A : Around} {K : Heap} {nm bn : List (Str × Value)}
/-- places and sums -/
structure GQ (c : Heap) (nm bn : List (Str × Value)) : Prop where
  f : FQ c nm bn
  dp : IsDef c 116 (stm 17)
  gp : (("_law_places" : Str), Value.ref 116) ∈ nm
  ds : IsDef c 109 (stm 16)
  gs : (("_law_sum" : Str), Value.ref 109) ∈ nm
theorem GQ.up {c c' : Heap} (H : GQ c nm bn) (u : Up c c') : GQ c' nm bn := ⟨H.f.up u, H.dp.up u, H.gp, H.ds.up u, H.gs⟩
set_option pp.deepTerms false
set_option maxRecDepth 20000 in
theorem law_all_sums_cl {ns : List Nat} (D : IsDef K 174 (stm 27)) (N : GQ K nm bn) (GG : Glb K nm bn) (room : Rm A 3) (hn : ∀ n ∈ ns, n < fib 79 ∧ (places n).length ≤ 10) (hz : ns.length ≤ 4) : Cl prog w A K (.ref 174) [.list (nats ns)] (.list (nats (allSums ns))) := by
  refine cl_of ["numbers"] ["sums", "number", "places"] D GG.lim room (by walk_at "args") rfl (by kernel_rfl) ?_
  intro env G c h g d t o Q gf e1 e2 e3 rm u F k
  simp only [List.map_cons, List.map_nil, List.zip_cons_cons, List.zip_nil_right, List.cons_append, List.nil_append] at F
  have kk : GK env ["_law_places"] := .of e2 e3 (by rw [e1]; kernel_rfl)
  have hh := rm.hd
  have GGc := GG.up u
  refine s_asg (p := .list (nats [0])) (ev_list (evl_cons ev_int evl_nil) (by decide)) u F (by walk_at "put") fun c1 h1 t1 u1 F1 => ?_
  have GG1 := GGc.up u1
  have N1 := (N.up u).up u1
  refine s_for (srcE_listT (l := ns) (fun n : Nat => PV.int (n : Nat)) hh (Ev.cast (p := .list (nats ns)) rfl (ev_name (by walk_at "mem"))))
    (fun y : List Nat × Option PV × Option PV => [("numbers", some (.list (nats ns))), ("sums", some (.list (nats y.1))), ("number", y.2.1), ("places", y.2.2)])
    (fun y its => [("numbers", some (.list (nats ns))), ("sums", some (.list (nats y.1))), ("number", some (its.headD (.int 0))), ("places", y.2.2)])
    (fun _ => []) (fun i y _ => y.1 = allSums (ns.take i) ∧ y.1.length ≤ 10 ^ i) ([0], none, none) rfl rfl F1 (.refl c1) (fun _ _ => ⟨by simp [allSums], by simp⟩) (fun y its hm => by
      obtain ⟨a, _, rfl⟩ := List.mem_map.mp hm
      exact .cons (.tail (.tail .head)) .nil) ?_ ?_
  · rintro i its G2 c2 y h2 t2 hi gf2 u2 ⟨hy, hlen⟩ F2 back
    obtain ⟨n, hni, rfl⟩ : ∃ n, ns[i]? = some n ∧ its = [PV.int (n : Nat)] := by
      rw [List.getElem?_map] at hi
      cases e : ns[i]? with
      | none => rw [e] at hi; cases hi
      | some a => rw [e] at hi; exact ⟨a, rfl, by simpa using hi.symm⟩
    replace F2 : Fr G2 c2 env [("numbers", some (.list (nats ns))), ("sums", some (.list (nats y.1))), ("number", some (.int (n : Nat))), ("places", y.2.2)] [] h2 := F2
    have hm := List.mem_of_getElem? hni
    have GG2 := GG1.up u2
    have N2 := N1.up u2
    obtain ⟨hf, hp⟩ := hn n hm
    refine wpAny_gen fun Qb hQb => ?_
    have il : i < 4 := by have := (List.getElem?_eq_some_iff.mp hni).1; lia
    have hpow : 10 ^ i ≤ 10 ^ 3 := Nat.pow_le_pow_right (by decide) (by lia)
    refine s_asg (p := .list (nats (places n))) (ev_callF (ev_glob GG2 kk (by walk_at "mem") N2.gp) N2.dp (evl_cons (ev_name (by walk_at "mem")) evl_nil) (law_places_clF N2.dp N2.f GG2 rm hf).cl) (.refl c2) F2 (by walk_at "put") fun c3 h3 t3 u3 F3 => ?_
    have hfl : (y.1.flatMap fun t => (places n).map fun p => t + p).length ≤ y.1.length * 10 := flat_len _ _ _ fun a _ => by simpa using hp
    refine asg_comp2 (xs1 := ["total"]) (xs2 := ["place"]) (gs := []) (caps := [("places", some (.list (nats (places n))))]) (items := y.1) (fun t : Nat => [PV.int (t : Nat)]) (fun p : Nat => [PV.int (p : Nat)]) (fun _ => true) (fun _ => places n) (fun _ _ => true) (fun t p => PV.int ((t + p : Nat) : Int)) (nats (y.1.flatMap fun t => (places n).map fun p => t + p)) (by simp [nats, List.map_flatMap, Function.comp_def, PyProof.Rows.filter_true']) F3 (.refl c3) (by walk_at "put") (fun c4 h4 t4 u4 F4 => ?_)
      (srcE_listT (fun n : Nat => PV.int (n : Nat)) hh (Ev.cast (p := .list (nats y.1)) rfl (ev_name (by walk_at "mem")))) e1 (by kernel_rfl) (by simp) (by rw [nats_len]; lia) (by simp) (by simp) (fun _ _ _ _ _ _ _ => evi_nil)
      (fun cenv ce a ha _ ops hops R => srcE_listT (fun n : Nat => PV.int (n : Nat)) hh (Ev.cast (p := .list (nats (places n))) rfl (ev_name (by
        match ops, hops with
        | [_], _ => walk_at "memz"))))
      (fun _ _ _ _ _ _ _ _ => evi_nil) (fun cenv ce a ha _ b hb _ R => Ev.cast (p := .int ((a : Nat) + (b : Nat) : Int)) (congrArg PV.int (by lia)) (ev_bin (ev_name (by walk_at "memz")) (ev_name (by walk_at "memz")) op_add)) (swaps_is e1 (by kernel_rfl)) gf2
    refine s_nil (hQb _ _ ⟨c4, (y.1.flatMap fun t => (places n).map fun p => t + p, some (.int (n : Nat)), some (.list (nats (places n)))), h4, t4, ⟨?_, ?_⟩, F4, rfl⟩)
    · show _ = allSums (ns.take (i + 1))
      rw [List.take_add_one, hni, hy]
      simp [allSums, List.foldl_append]
    · show (y.1.flatMap fun t => (places n).map fun p => t + p).length ≤ 10 ^ (i + 1)
      rw [Nat.pow_succ]
      lia
  · rintro c2 y h2 t2 u2 ⟨hy, _⟩ F2
    refine s_ret (ev_name (p := .list (nats (allSums ns))) ?_) (.refl c2) F2 fun c' v h' t' x F' dv => k _ _ _ _ _ _ F' dv
    rw [hy, List.length_map, List.take_length]
    walk_at "mem"
end
end Mine
namespace Mine
theorem fib_2 (n : Nat) : fib (n + 2) = fib n + fib (n + 1) := rfl
noncomputable def sg (c : Nat) : Int := if c % 2 = 0 then 1 else -1
theorem sg_one (a : Nat) : sg a = 1 ∨ sg a = -1 := by unfold sg; split <;> simp
theorem sg_add (a b : Nat) : sg (a + b) = sg a * sg b := by
  unfold sg
  rcases Nat.mod_two_eq_zero_or_one a with h | h <;> rcases Nat.mod_two_eq_zero_or_one b with h' | h' <;> simp [h, h', Nat.add_mod]
theorem sg_sq (a : Nat) : sg a * sg a = 1 := by rcases sg_one a with h | h <;> simp [h]
theorem sg_succ (a : Nat) : sg (a + 1) = -sg a := by rw [sg_add]; simp [sg]
theorem ocagne : ∀ (c K : Nat), c + 1 ≤ K → (fib c : Int) * fib K - fib (c + 1) * fib (K - 1) = sg (c + 1) * fib (K - (c + 1))
  | 0, K, h => by simp [fib, sg]
  | 1, K, h => by
    obtain ⟨k, rfl⟩ : ∃ k, K = k + 2 := ⟨K - 2, by lia⟩
    have : fib (k + 2) = fib k + fib (k + 1) := rfl
    simp only [show k + 2 - 1 = k + 1 by lia, show k + 2 - (1 + 1) = k by lia, this]
    simp [fib, sg]
  | c + 2, K, h => by
    have h1 := ocagne c K (by lia)
    have h2 := ocagne (c + 1) K (by lia)
    obtain ⟨k, rfl⟩ : ∃ k, K = k + (c + 3) := ⟨K - (c + 3), by lia⟩
    rw [show k + (c + 3) - (c + 2 + 1) = k by lia]
    rw [show k + (c + 3) - (c + 1) = k + 2 by lia] at h1
    rw [show k + (c + 3) - (c + 1 + 1) = k + 1 by lia] at h2
    rw [fib_2 k] at h1
    rw [sg_succ (c + 1)] at h2
    rw [show c + 2 + 1 = c + 1 + 1 + 1 from rfl, sg_succ, sg_succ]
    rw [show c + 1 + 1 + 1 = (c + 1) + 2 from rfl, fib_2 (c + 1), fib_2 c]
    rw [show c + 1 + 1 = c + 2 from rfl, fib_2 c] at h2
    generalize k + (c + 3) = K at *
    generalize fib (K - 1) = F1 at *
    generalize fib K = F at *
    generalize fib c = a at *
    generalize fib (c + 1) = b at *
    generalize fib k = u at *
    generalize fib (k + 1) = v at *
    simp only [Int.natCast_add, Int.add_mul, Int.mul_add, Int.neg_mul, Int.neg_neg] at *
    lia
noncomputable def wsum (K : Nat) (l : List Nat) : Int := (l.map fun c => sg c * (fib (K - c) : Int)).sum
noncomputable def sX (l : List Nat) : Nat := (l.map fib).sum
noncomputable def sY (l : List Nat) : Nat := (l.map fun c => fib (c - 1)).sum
noncomputable def conv (l m : List Nat) : List Nat := l.flatMap fun a => m.map fun b => a + b
theorem wsum_cons (K a : Nat) (l : List Nat) : wsum K (a :: l) = sg a * (fib (K - a) : Int) + wsum K l := by simp [wsum]
theorem wsum_append (K : Nat) (l m : List Nat) : wsum K (l ++ m) = wsum K l + wsum K m := by simp [wsum]
theorem sX_cons (a : Nat) (l : List Nat) : sX (a :: l) = fib a + sX l := by simp [sX]
theorem sY_cons (a : Nat) (l : List Nat) : sY (a :: l) = fib (a - 1) + sY l := by simp [sY]
theorem sX_append (l m : List Nat) : sX (l ++ m) = sX l + sX m := by simp [sX]
theorem sY_append (l m : List Nat) : sY (l ++ m) = sY l + sY m := by simp [sY]
theorem conv_cons (a : Nat) (l m : List Nat) : conv (a :: l) m = (m.map fun b => a + b) ++ conv l m := by simp [conv]
theorem wsum_xy (K : Nat) : ∀ l : List Nat, (∀ c ∈ l, 1 ≤ c ∧ c ≤ K) → wsum K l = (sY l : Int) * fib K - (sX l : Int) * fib (K - 1)
  | [], _ => by simp [wsum, sX, sY]
  | c :: l, h => by
    have ih := wsum_xy K l fun x hx => h x (.tail _ hx)
    obtain ⟨h1, h2⟩ := h c (.head _)
    obtain ⟨e, rfl⟩ : ∃ e, c = e + 1 := ⟨c - 1, by lia⟩
    have := ocagne e K h2
    rw [wsum_cons, ih, sX_cons, sY_cons, ← this, show e + 1 - 1 = e from rfl]
    simp only [Int.natCast_add, Int.add_mul]
    lia
theorem fib_add : ∀ (a b : Nat), fib (a + 1 + (b + 1)) = fib (a + 1) * fib (b + 1) + fib (a + 1) * fib b + fib a * fib (b + 1)
  | 0, b => by simp [fib]; rw [show 1 + (b + 1) = b + 2 by lia, fib_2]; lia
  | 1, b => by
    rw [show 1 + 1 + (b + 1) = (b + 1) + 2 by lia, fib_2, show b + 1 + 1 = b + 2 from rfl, fib_2]; simp [fib]; lia
  | a + 2, b => by
    have h1 := fib_add a b
    have h2 := fib_add (a + 1) b
    rw [show a + 2 + 1 + (b + 1) = (a + 1 + (b + 1)) + 2 by lia, fib_2, h1, show a + 1 + (b + 1) + 1 = a + 1 + 1 + (b + 1) by lia, h2]
    rw [show a + 2 + 1 = (a + 1) + 2 from rfl, fib_2 (a + 1), show a + 1 + 1 = a + 2 from rfl, fib_2 a]
    simp only [Nat.add_mul]
    lia
theorem fib_add' (a b : Nat) : fib (a + 1 + b) = fib (a + 1) * fib (b + 1) + fib a * fib b := by
  cases b with
  | zero => simp [fib]
  | succ b => rw [fib_add, fib_2 b]; simp only [Nat.mul_add]; lia
theorem sX_shift (a : Nat) (ha : 1 ≤ a) : ∀ m : List Nat, (∀ b ∈ m, 1 ≤ b) → sX (m.map fun b => a + b) = fib a * sX m + fib a * sY m + fib (a - 1) * sX m
  | [], _ => by simp [sX, sY]
  | b :: m, h => by
    have ih := sX_shift a ha m fun x hx => h x (.tail _ hx)
    have hb := h b (.head _)
    obtain ⟨e, rfl⟩ : ∃ e, a = e + 1 := ⟨a - 1, by lia⟩
    obtain ⟨k, rfl⟩ : ∃ k, b = k + 1 := ⟨b - 1, by lia⟩
    rw [List.map_cons, sX_cons, ih, sX_cons, sY_cons, fib_add]
    simp only [Nat.add_sub_cancel, Nat.mul_add]
    lia
theorem sY_shift (a : Nat) (ha : 1 ≤ a) : ∀ m : List Nat, (∀ b ∈ m, 1 ≤ b) → sY (m.map fun b => a + b) = fib a * sX m + fib (a - 1) * sY m
  | [], _ => by simp [sX, sY]
  | b :: m, h => by
    have ih := sY_shift a ha m fun x hx => h x (.tail _ hx)
    have hb := h b (.head _)
    obtain ⟨e, rfl⟩ : ∃ e, a = e + 1 := ⟨a - 1, by lia⟩
    obtain ⟨k, rfl⟩ : ∃ k, b = k + 1 := ⟨b - 1, by lia⟩
    rw [List.map_cons, sY_cons, ih, sX_cons, sY_cons, show e + 1 + (k + 1) - 1 = e + 1 + k by lia, fib_add']
    simp only [Nat.add_sub_cancel, Nat.mul_add]
    lia
theorem sX_conv (m : List Nat) (hm : ∀ b ∈ m, 1 ≤ b) : ∀ l : List Nat, (∀ a ∈ l, 1 ≤ a) → sX (conv l m) = sX l * sX m + sX l * sY m + sY l * sX m
  | [], _ => by simp [sX, sY, conv]
  | a :: l, h => by
    have ih := sX_conv m hm l fun x hx => h x (.tail _ hx)
    rw [conv_cons, sX_append, sX_shift a (h a (.head _)) m hm, ih, sX_cons, sY_cons]
    simp only [Nat.add_mul]; lia
theorem sY_conv (m : List Nat) (hm : ∀ b ∈ m, 1 ≤ b) : ∀ l : List Nat, (∀ a ∈ l, 1 ≤ a) → sY (conv l m) = sX l * sX m + sY l * sY m
  | [], _ => by simp [sX, sY, conv]
  | a :: l, h => by
    have ih := sY_conv m hm l fun x hx => h x (.tail _ hx)
    rw [conv_cons, sY_append, sY_shift a (h a (.head _)) m hm, ih, sX_cons, sY_cons]
    simp only [Nat.add_mul]; lia
theorem fibZ_mono {m n : Nat} (h : m ≤ n) : (fib m : Int) ≤ fib n := Int.ofNat_le.mpr (fib_mono h)
/-- the sign of c against that of d -/
theorem sg_rel {d c : Nat} (h : d + 2 ≤ c) : sg c = sg d ∨ (sg c = -sg d ∧ d + 3 ≤ c) := by
  unfold sg
  by_cases e : c = d + 2
  · left; subst e; rw [Nat.add_mod_right]
  · rcases Nat.mod_two_eq_zero_or_one c with h1 | h1 <;> rcases Nat.mod_two_eq_zero_or_one d with h2 | h2 <;> simp [h1, h2] <;> lia
theorem wsum_bd : ∀ (l : List Nat) (d K : Nat), l.Pairwise (fun a b => a + 2 ≤ b) → (∀ c ∈ l, d + 2 ≤ c ∧ c + 3 ≤ K) → d + 3 ≤ K → -(fib (K - d - 2) : Int) < sg d * wsum K l ∧ sg d * wsum K l < fib (K - d - 1)
  | [], d, K, _, _, hK => by
    have h1 := fib_pos (K - d - 2) (by lia)
    have h2 := fib_pos (K - d - 1) (by lia)
    simp only [wsum, List.map_nil, List.sum_nil, Int.mul_zero]; lia
  | c :: l, d, K, hp, hc, hK => by
    rw [List.pairwise_cons] at hp
    obtain ⟨c1, c2⟩ := hc c (.head _)
    obtain ⟨b1, b2⟩ := wsum_bd l c K hp.2 (fun x hx => ⟨hp.1 x hx, (hc x (.tail _ hx)).2⟩) c2
    obtain ⟨k, rfl⟩ : ∃ k, K = k + (c + 2) := ⟨K - (c + 2), by lia⟩
    rw [show k + (c + 2) - c - 2 = k by lia] at b1
    rw [show k + (c + 2) - c - 1 = k + 1 by lia] at b2
    have e3 : fib (k + 3) = fib (k + 1) + fib (k + 2) := rfl
    have e2 := fib_2 k
    rw [wsum_cons, show k + (c + 2) - c = k + 2 by lia]
    have key : sg c * (sg c * (fib (k + 2) : Int) + wsum (k + (c + 2)) l) = fib (k + 2) + sg c * wsum (k + (c + 2)) l := by
      rw [Int.mul_add, ← Int.mul_assoc, sg_sq, Int.one_mul]
    have f1 := fib_pos (k + 1) (by lia)
    rcases sg_rel c1 with e | ⟨e, c3⟩
    · rw [← e, key]
      have := fibZ_mono (show k + 3 ≤ k + (c + 2) - d - 1 by lia)
      have p2 : (0 : Int) ≤ fib (k + (c + 2) - d - 2) := by lia
      lia
    · have e' : sg d = -sg c := by lia
      rw [e', Int.neg_mul, key]
      have := fibZ_mono (show k + 3 ≤ k + (c + 2) - d - 2 by lia)
      have p2 : (0 : Int) ≤ fib (k + (c + 2) - d - 1) := by lia
      lia
theorem wsum_shift (K a : Nat) : ∀ m : List Nat, wsum K (m.map fun b => a + b) = sg a * wsum (K - a) m
  | [] => by simp [wsum]
  | b :: m => by rw [List.map_cons, wsum_cons, wsum_cons, wsum_shift K a m, sg_add, ← Nat.sub_sub, Int.mul_add, Int.mul_assoc]
theorem wsum_bd2 (m : List Nat) (pm : m.Pairwise (fun a b => a + 2 ≤ b)) : ∀ (l : List Nat) (d K : Nat), l.Pairwise (fun a b => a + 2 ≤ b) → (∀ c ∈ l, d + 2 ≤ c ∧ c + 4 ≤ K ∧ ∀ b ∈ m, 2 ≤ b ∧ c + b + 3 ≤ K) → d + 4 ≤ K → -(fib (K - d - 3) : Int) < sg d * wsum K (conv l m) ∧ sg d * wsum K (conv l m) < fib (K - d - 2)
  | [], d, K, _, _, hK => by
    have h1 := fib_pos (K - d - 2) (by lia)
    have h2 := fib_pos (K - d - 3) (by lia)
    simp only [wsum, conv, List.flatMap_nil, List.map_nil, List.sum_nil, Int.mul_zero]; lia
  | c :: l, d, K, hp, hc, hK => by
    rw [List.pairwise_cons] at hp
    obtain ⟨c1, c2, c4⟩ := hc c (.head _)
    obtain ⟨b1, b2⟩ := wsum_bd2 m pm l c K hp.2 (fun x hx => ⟨hp.1 x hx, (hc x (.tail _ hx)).2⟩) c2
    obtain ⟨k, rfl⟩ : ∃ k, K = k + (c + 3) := ⟨K - (c + 3), by lia⟩
    obtain ⟨d1, d2⟩ := wsum_bd m 0 (k + 3) pm (fun x hx => by have := c4 x hx; lia) (by lia)
    rw [show sg 0 = 1 from rfl, Int.one_mul] at d1 d2
    rw [show k + (c + 3) - c - 3 = k by lia] at b1
    rw [show k + (c + 3) - c - 2 = k + 1 by lia] at b2
    rw [show k + 3 - 0 - 2 = k + 1 by lia] at d1
    rw [show k + 3 - 0 - 1 = k + 2 by lia] at d2
    have e3 : fib (k + 3) = fib (k + 1) + fib (k + 2) := rfl
    have e2 := fib_2 k
    rw [conv_cons, wsum_append, wsum_shift, show k + (c + 3) - c = k + 3 by lia]
    have key : sg c * (sg c * wsum (k + 3) m + wsum (k + (c + 3)) (conv l m)) = wsum (k + 3) m + sg c * wsum (k + (c + 3)) (conv l m) := by
      rw [Int.mul_add, ← Int.mul_assoc, sg_sq, Int.one_mul]
    rcases sg_rel c1 with e | ⟨e, c3⟩
    · rw [← e, key]
      have h1 := fibZ_mono (show k + 3 ≤ k + (c + 3) - d - 2 by lia)
      have h2 := fibZ_mono (show k + 2 ≤ k + (c + 3) - d - 3 by lia)
      lia
    · have e' : sg d = -sg c := by lia
      rw [e', Int.neg_mul, key]
      have h1 := fibZ_mono (show k + 3 ≤ k + (c + 3) - d - 3 by lia)
      have h2 := fibZ_mono (show k + 2 ≤ k + (c + 3) - d - 2 by lia)
      lia
/-- Knuth: the shifted sum of a number's places hangs on the number alone -/
theorem knuth {l m p : List Nat} (pl : l.Pairwise (fun a b => a + 2 ≤ b)) (pm : m.Pairwise (fun a b => a + 2 ≤ b)) (pp : p.Pairwise (fun a b => a + 2 ≤ b)) (hl : ∀ c ∈ l, 2 ≤ c ∧ c ≤ 80) (hm : ∀ c ∈ m, 2 ≤ c ∧ c ≤ 80) (hp : ∀ c ∈ p, 2 ≤ c ∧ c ≤ 80)
    (h : sX p = sX (conv l m)) : sY p = sY (conv l m) := by
  obtain ⟨K, hK⟩ : ∃ K : Nat, K = 200 := ⟨_, rfl⟩
  have mc : ∀ c ∈ conv l m, 1 ≤ c ∧ c ≤ K := fun c hc => by
    simp only [conv, List.mem_flatMap, List.mem_map] at hc
    obtain ⟨a, ha, b, hb, rfl⟩ := hc
    have := hl a ha
    have := hm b hb
    lia
  have w1 := wsum_xy K p fun c hc => by have := hp c hc; lia
  have w2 := wsum_xy K (conv l m) mc
  obtain ⟨a1, a2⟩ := wsum_bd p 0 K pp (fun c hc => by have := hp c hc; lia) (by lia)
  obtain ⟨b1, b2⟩ := wsum_bd2 m pm l 0 K pl (fun c hc => ⟨by have := hl c hc; lia, by have := hl c hc; lia, fun b hb => by have := hl c hc; have := hm b hb; lia⟩) (by lia)
  rw [show sg 0 = 1 from rfl, Int.one_mul] at a1 a2 b1 b2
  obtain ⟨k, rfl⟩ : ∃ k, K = k + 3 := ⟨K - 3, by lia⟩
  simp only [Nat.sub_zero] at a1 a2 b1 b2
  rw [show k + 3 - 2 = k + 1 by lia] at a1 b2
  rw [show k + 3 - 1 = k + 2 by lia] at a2
  rw [show k + 3 - 3 = k by lia] at b1
  have e3 : fib (k + 3) = fib (k + 1) + fib (k + 2) := rfl
  have e2 := fib_2 k
  have e4 := fib_le_succ k
  rw [w1] at a1 a2
  rw [w2] at b1 b2
  rw [← h] at b1 b2
  generalize fib (k + 3) = F at *
  generalize ((sX p : Nat) : Int) * ((fib (k + 3 - 1) : Nat) : Int) = Z at *
  rcases Nat.lt_trichotomy (sY p) (sY (conv l m)) with q | q | q
  · exfalso
    have : ((sY p : Int) + 1) * F ≤ (sY (conv l m) : Int) * F := Int.mul_le_mul_of_nonneg_right (by lia) (by lia)
    rw [Int.add_mul] at this
    lia
  · exact q
  · exfalso
    have : ((sY (conv l m) : Int) + 1) * F ≤ (sY p : Int) * F := Int.mul_le_mul_of_nonneg_right (by lia) (by lia)
    rw [Int.add_mul] at this
    lia
end Mine
namespace Mine
/-- a number's places, none of them next to another, the highest first -/
noncomputable def Zs (l : List Nat) : Prop := l.Pairwise (fun a b => b + 2 ≤ a) ∧ ∀ c ∈ l, 2 ≤ c
/-- greedy, the places p + 1 down to 2 -/
noncomputable def gr : Nat → Nat → List Nat
  | 0, _ => []
  | p + 1, n => if fib (p + 2) ≤ n then (p + 2) :: gr p (n - fib (p + 2)) else gr p n
theorem gr_fold : ∀ (p n : Nat) (acc : List Nat), ((downL (p + 2) p).foldl plStep (n, acc)).2 = acc ++ gr p n
  | 0, n, acc => by simp [downL, gr]
  | p + 1, n, acc => by
    have e : downL (p + 1 + 2) (p + 1) = (p + 2) :: downL (p + 2) p := by
      unfold downL
      rw [List.range_succ_eq_map, List.map_cons, List.map_map]
      congr 1
      refine List.map_congr_left fun i hi => ?_
      have := List.mem_range.mp hi
      simp only [Function.comp]
      lia
    rw [e, List.foldl_cons, gr]
    by_cases h : fib (p + 2) ≤ n
    · rw [show plStep (n, acc) (p + 2) = (n - fib (p + 2), acc ++ [p + 2]) from if_pos h, gr_fold p, if_pos h]; simp
    · rw [show plStep (n, acc) (p + 2) = (n, acc) from if_neg h, gr_fold p, if_neg h]
theorem places_gr (n : Nat) : places n = gr 78 n := by
  have := gr_fold 78 n []
  simpa [places] using this
theorem fib_le_sX {c : Nat} : ∀ {l : List Nat}, c ∈ l → fib c ≤ sX l
  | a :: l, h => by
    rw [sX_cons]
    rcases List.mem_cons.mp h with rfl | h
    · lia
    · have := fib_le_sX h; lia
theorem fib_lt {c q n : Nat} (h1 : fib c ≤ n) (h2 : n < fib q) : c < q := by
  rcases Nat.lt_or_ge c q with h | h
  · exact h
  · have := fib_mono h; lia
theorem gr_ok : ∀ (p n : Nat), n < fib (p + 2) → sX (gr p n) = n ∧ Zs (gr p n) ∧ ∀ c ∈ gr p n, c ≤ p + 1
  | 0, n, h => by
    have : n = 0 := by simp [fib] at h; lia
    subst this
    exact ⟨rfl, ⟨.nil, by simp [gr]⟩, by simp [gr]⟩
  | p + 1, n, h => by
    have e : fib (p + 1 + 2) = fib (p + 1) + fib (p + 2) := rfl
    unfold gr
    by_cases hb : fib (p + 2) ≤ n
    · rw [if_pos hb]
      have h1 : n - fib (p + 2) < fib (p + 1) := by lia
      have h2 := fib_le_succ (p + 1)
      obtain ⟨a, ⟨b, b'⟩, c⟩ := gr_ok p (n - fib (p + 2)) (Nat.lt_of_lt_of_le h1 h2)
      refine ⟨by rw [sX_cons, a]; lia, ⟨.cons (fun x hx => ?_) b, fun x hx => ?_⟩, fun x hx => ?_⟩
      · have := fib_lt (fib_le_sX hx) (a.symm ▸ h1); lia
      · rcases List.mem_cons.mp hx with rfl | hx
        · lia
        · exact b' x hx
      · rcases List.mem_cons.mp hx with rfl | hx
        · lia
        · have := c x hx; lia
    · rw [if_neg hb]
      obtain ⟨a, b, c⟩ := gr_ok p n (by lia)
      exact ⟨a, b, fun x hx => by have := c x hx; lia⟩
theorem sX_lt : ∀ (l : List Nat) (p : Nat), Zs l → (∀ c ∈ l, c ≤ p) → sX l < fib (p + 1)
  | [], p, _, _ => by have := fib_pos (p + 1) (by lia); simp [sX]; lia
  | c :: l, p, ⟨h, h'⟩, hp => by
    rw [List.pairwise_cons] at h
    have c2 := h' c (.head _)
    have := sX_lt l (c - 2) ⟨h.2, fun x hx => h' x (.tail _ hx)⟩ (fun x hx => by have := h.1 x hx; lia)
    obtain ⟨k, rfl⟩ : ∃ k, c = k + 2 := ⟨c - 2, by lia⟩
    have e : fib (k + 3) = fib (k + 1) + fib (k + 2) := rfl
    have := fib_mono (show k + 3 ≤ p + 1 by have := hp (k + 2) (.head _); lia)
    rw [sX_cons]
    simp only [Nat.add_sub_cancel] at *
    lia
theorem gr_uniq : ∀ (p : Nat) (l : List Nat), Zs l → (∀ c ∈ l, c ≤ p + 1) → gr p (sX l) = l
  | 0, l, ⟨_, h'⟩, hp => by
    cases l with
    | nil => rfl
    | cons c l => have := h' c (.head _); have := hp c (.head _); lia
  | p + 1, [], _, _ => by
    have := gr_uniq p [] ⟨.nil, by simp⟩ (by simp)
    have h := fib_pos (p + 2) (by lia)
    unfold gr
    rw [if_neg (by simp [sX]; lia)]; exact this
  | p + 1, c :: l, ⟨h, h'⟩, hp => by
    have hZ : Zs (c :: l) := ⟨h, h'⟩
    rw [List.pairwise_cons] at h
    have hc := hp c (.head _)
    unfold gr
    by_cases e : c = p + 2
    · subst e
      rw [sX_cons, if_pos (by lia), Nat.add_sub_cancel_left, gr_uniq p l ⟨h.2, fun x hx => h' x (.tail _ hx)⟩ (fun x hx => by have := h.1 x hx; lia)]
    · have : sX (c :: l) < fib (p + 2) := sX_lt (c :: l) (p + 1) hZ (fun x hx => by
        rcases List.mem_cons.mp hx with rfl | hx
        · lia
        · have := h.1 x hx; lia)
      rw [if_neg (by lia)]
      exact gr_uniq p (c :: l) hZ (fun x hx => by
        rcases List.mem_cons.mp hx with rfl | hx
        · lia
        · have := h.1 x hx; lia)
theorem places_ok {n : Nat} (h : n < fib 80) : sX (places n) = n ∧ Zs (places n) ∧ ∀ c ∈ places n, c ≤ 79 := by
  rw [places_gr]; exact gr_ok 78 n h
theorem places_uniq {l : List Nat} (h : Zs l) (hp : ∀ c ∈ l, c ≤ 79) : places (sX l) = l := by
  rw [places_gr]; exact gr_uniq 78 l h hp
theorem Zs.rev {l : List Nat} (h : Zs l) : l.reverse.Pairwise (fun a b => a + 2 ≤ b) := List.pairwise_reverse.mpr h.1
theorem sX_perm {l m : List Nat} (p : l.Perm m) : sX l = sX m := (p.map fib).sum_nat
theorem sY_perm {l m : List Nat} (p : l.Perm m) : sY l = sY m := (p.map _).sum_nat
/-- a number's pair: the number, and its places' sum one place lower -/
noncomputable def vec (n : Nat) : Nat × Nat := (n, sY (places n))
noncomputable def vmul (p q : Nat × Nat) : Nat × Nat := (p.1 * q.1 + p.1 * q.2 + p.2 * q.1, p.1 * q.1 + p.2 * q.2)
theorem vmul_comm (p q : Nat × Nat) : vmul p q = vmul q p := by
  simp only [vmul, Nat.mul_comm, Prod.mk.injEq, and_true]; lia
theorem vmul_assoc (p q r : Nat × Nat) : vmul (vmul p q) r = vmul p (vmul q r) := by
  simp only [vmul, Prod.mk.injEq, Nat.add_mul, Nat.mul_add, Nat.mul_assoc]; lia
/-- the product by places -/
noncomputable def prodN (m n : Nat) : Nat := sX (conv (places m).reverse (places n).reverse)
theorem vec_prod {m n : Nat} (hm : m < fib 80) (hn : n < fib 80) (hp : prodN m n < fib 80) : vec (prodN m n) = vmul (vec m) (vec n) := by
  obtain ⟨m1, m2, m3⟩ := places_ok hm
  obtain ⟨n1, n2, n3⟩ := places_ok hn
  obtain ⟨p1, p2, p3⟩ := places_ok hp
  have r : ∀ l : List Nat, l.reverse.Perm l := List.reverse_perm
  have bd : ∀ {l : List Nat}, Zs l → (∀ c ∈ l, c ≤ 79) → ∀ c ∈ l.reverse, 2 ≤ c ∧ c ≤ 80 := fun h h' c hc => by
    have hc := List.mem_reverse.mp hc
    exact ⟨h.2 c hc, by have := h' c hc; lia⟩
  have k := knuth m2.rev n2.rev p2.rev (bd m2 m3) (bd n2 n3) (bd p2 p3) (by rw [sX_perm (r _), p1]; rfl)
  have pm : ∀ {l : List Nat}, Zs l → ∀ c ∈ l.reverse, 1 ≤ c := fun h c hc => by have := h.2 c (List.mem_reverse.mp hc); lia
  rw [sY_perm (r _)] at k
  have x1 := sX_conv _ (pm n2) _ (pm m2)
  have x2 := sY_conv _ (pm n2) _ (pm m2)
  simp only [sX_perm (r _), sY_perm (r _), m1, n1] at x1 x2
  unfold vec vmul
  dsimp only
  rw [k, x2, Prod.mk.injEq]
  exact ⟨x1, rfl⟩
end Mine
namespace Mine
/-- Fibonacci's numbers step by step -/
noncomputable def fibP : Nat → Nat × Nat
  | 0 => (0, 1)
  | n + 1 => ((fibP n).2, (fibP n).1 + (fibP n).2)
theorem fibP_is : ∀ n, fibP n = (fib n, fib (n + 1))
  | 0 => rfl
  | n + 1 => by rw [fibP, fibP_is n]; rfl
theorem fib_at {n v : Nat} (h : (fibP n).1 = v) : fib n = v := by rw [← h, fibP_is]
theorem fib_46 : fib 46 = 1836311903 := fib_at (by decide +kernel)
theorem fib_le_of {v k : Nat} (h : v ≤ 1619177472) (hk : 46 ≤ k) : v < fib k := Nat.lt_of_lt_of_le (by rw [fib_46]; lia) (fib_mono hk)
theorem sY_le (l : List Nat) : sY l ≤ sX l := by
  induction l with
  | nil => exact Nat.le_refl _
  | cons a l ih =>
    rw [sX_cons, sY_cons]
    have := fib_mono (show a - 1 ≤ a by lia)
    lia
theorem prodN_xy {m n : Nat} (hm : m < fib 80) (hn : n < fib 80) : prodN m n = m * n + m * sY (places n) + sY (places m) * n := by
  obtain ⟨m1, m2, _⟩ := places_ok hm
  obtain ⟨n1, n2, _⟩ := places_ok hn
  have pm : ∀ {l : List Nat}, Zs l → ∀ c ∈ l.reverse, 1 ≤ c := fun h c hc => by have := h.2 c (List.mem_reverse.mp hc); lia
  have r : ∀ l : List Nat, l.reverse.Perm l := List.reverse_perm
  have x1 := sX_conv _ (pm n2) _ (pm m2)
  simp only [sX_perm (r _), sY_perm (r _), m1, n1] at x1
  exact x1
theorem prodN_le {m n : Nat} (hm : m < fib 80) (hn : n < fib 80) : prodN m n ≤ 3 * (m * n) ∧ m * n ≤ prodN m n := by
  have h1 := (places_ok hm).1
  have h2 := (places_ok hn).1
  have a1 := sY_le (places m)
  have a2 := sY_le (places n)
  rw [h1] at a1
  rw [h2] at a2
  have b1 := Nat.mul_le_mul_right n a1
  have b2 := Nat.mul_le_mul_left m a2
  rw [prodN_xy hm hn]
  lia
/-- all pairs multiplied -/
noncomputable def vprod (l : List Nat) : Nat × Nat := l.foldr (fun n p => vmul (vec n) p) (0, 1)
noncomputable def tri (l : List Nat) : Nat := l.foldr (fun n p => 3 * n * p) 1
theorem tri_cons (a : Nat) (l : List Nat) : tri (a :: l) = 3 * a * tri l := rfl
theorem vprod_cons (a : Nat) (l : List Nat) : vprod (a :: l) = vmul (vec a) (vprod l) := rfl
theorem vprod_perm {l m : List Nat} (p : l.Perm m) : vprod l = vprod m := by
  induction p with
  | nil => rfl
  | cons x _ ih => show vmul _ _ = vmul _ _; rw [show List.foldr _ _ _ = vprod _ from rfl, ih]; rfl
  | swap x y l =>
    show vmul (vec y) (vmul (vec x) (vprod l)) = vmul (vec x) (vmul (vec y) (vprod l))
    rw [← vmul_assoc, ← vmul_assoc, vmul_comm (vec y)]
  | trans _ _ h1 h2 => exact h1.trans h2
theorem tri_perm {l m : List Nat} (p : l.Perm m) : tri l = tri m := by
  induction p with
  | nil => rfl
  | cons x _ ih => show 3 * x * tri _ = 3 * x * tri _; rw [ih]
  | swap x y l =>
    show 3 * y * (3 * x * tri l) = 3 * x * (3 * y * tri l)
    rw [← Nat.mul_assoc (3 * y) (3 * x), ← Nat.mul_assoc (3 * x) (3 * y), Nat.mul_comm (3 * y) (3 * x)]
  | trans _ _ h1 h2 => exact h1.trans h2
/-- what lies on the heap of the numbers ns -/
structure Melt (ns l : List Nat) : Prop where
  pos : ∀ v ∈ l, 1 ≤ v
  sz : tri l ≤ 4857532416
  val : vprod l = vprod ns
theorem tri_pos : ∀ {l : List Nat}, (∀ v ∈ l, 1 ≤ v) → 1 ≤ tri l
  | [], _ => Nat.le_refl _
  | a :: l, h => by
    show 1 ≤ 3 * a * tri l
    have := h a (.head _)
    exact Nat.mul_pos (by lia) (tri_pos fun x hx => h x (.tail _ hx))
theorem le_tri {v : Nat} : ∀ {l : List Nat}, (∀ v ∈ l, 1 ≤ v) → v ∈ l → 3 * v ≤ tri l
  | a :: l, h, hv => by
    show 3 * v ≤ 3 * a * tri l
    have ha := h a (.head _)
    rcases List.mem_cons.mp hv with rfl | hv
    · exact Nat.le_mul_of_pos_right _ (tri_pos fun x hx => h x (.tail _ hx))
    · exact Nat.le_trans (le_tri (fun x hx => h x (.tail _ hx)) hv) (Nat.le_mul_of_pos_left _ (by lia))
theorem Melt.lt {ns l : List Nat} (M : Melt ns l) {v k : Nat} (hv : v ∈ l) (hk : 46 ≤ k) : v < fib k := fib_le_of (by have := le_tri M.pos hv; have := M.sz; lia) hk
theorem Melt.perm {ns l m : List Nat} (M : Melt ns l) (p : l.Perm m) : Melt ns m := ⟨fun v hv => M.pos v (p.mem_iff.mpr hv), by rw [← tri_perm p]; exact M.sz, by rw [← vprod_perm p]; exact M.val⟩
theorem Melt.prodLt {ns l : List Nat} {i j : Nat} (M : Melt ns (i :: j :: l)) : prodN i j ≤ 1619177472 ∧ 1 ≤ prodN i j := by
  have hi0 : i < fib 80 := M.lt (List.mem_cons_self ..) (by decide)
  have hj0 : j < fib 80 := M.lt (List.mem_cons_of_mem _ (List.mem_cons_self ..)) (by decide)
  obtain ⟨h1, h2⟩ := prodN_le hi0 hj0
  have hi := M.pos i (.head _)
  have hj := M.pos j (.tail _ (.head _))
  have ht := tri_pos (l := l) fun x hx => M.pos x (.tail _ (.tail _ hx))
  have hs := M.sz
  rw [tri_cons, tri_cons] at hs
  have h3 : 3 * i * (3 * j * 1) ≤ 3 * i * (3 * j * tri l) := Nat.mul_le_mul_left _ (Nat.mul_le_mul_left _ ht)
  have e : 3 * i * (3 * j * 1) = 9 * (i * j) := by rw [Nat.mul_one, Nat.mul_mul_mul_comm]
  have hp := Nat.mul_pos hi hj
  lia
theorem Melt.step {ns l : List Nat} {i j : Nat} (M : Melt ns (i :: j :: l)) : Melt ns (prodN i j :: l) := by
  have hi : i < fib 80 := M.lt (List.mem_cons_self ..) (by decide)
  have hj : j < fib 80 := M.lt (List.mem_cons_of_mem _ (List.mem_cons_self ..)) (by decide)
  obtain ⟨h1, h2⟩ := prodN_le hi hj
  obtain ⟨h3, h4⟩ := M.prodLt
  refine ⟨fun v hv => ?_, ?_, ?_⟩
  · rcases List.mem_cons.mp hv with e | hv
    · rw [e]; exact h4
    · exact M.pos v (List.mem_cons_of_mem _ (List.mem_cons_of_mem _ hv))
  · refine Nat.le_trans ?_ M.sz
    rw [tri_cons, tri_cons, tri_cons, ← Nat.mul_assoc (3 * i)]
    refine Nat.mul_le_mul_right _ ?_
    rw [Nat.mul_mul_mul_comm]; lia
  · rw [← M.val, vprod_cons, vprod_cons, vprod_cons, vec_prod hi hj (fib_le_of h3 (by decide)), vmul_assoc]
theorem Melt.fold {ns : List Nat} : ∀ {l : List Nat} {a : Nat}, Melt ns (a :: l) → Melt ns [l.foldl prodN a]
  | [], _, M => M
  | b :: l, a, M => by rw [List.foldl_cons]; exact Melt.fold (l := l) (a := prodN a b) M.step
theorem Melt.one {ns : List Nat} {a : Nat} (M : Melt ns [a]) : a = (vprod ns).1 := by
  rw [← M.val]
  show a = (vec a).1 * 0 + (vec a).1 * 1 + (vec a).2 * 0
  simp [vec]
theorem Melt.start {ns : List Nat} (h : ∀ v ∈ ns, 1 ≤ v ∧ v ≤ 88) (hl : ns.length ≤ 4) : Melt ns ns := by
  refine ⟨fun v hv => (h v hv).1, ?_, rfl⟩
  have key : ∀ l : List Nat, (∀ v ∈ l, v ≤ 88) → tri l ≤ 264 ^ l.length := by
    intro l
    induction l with
    | nil => intro _; exact Nat.le_refl _
    | cons a l ih =>
      intro h
      rw [tri_cons, List.length_cons, Nat.pow_succ, Nat.mul_comm (264 ^ _)]
      exact Nat.mul_le_mul (by have := h a (.head _); lia) (ih fun x hx => h x (.tail _ hx))
  refine Nat.le_trans (key ns fun v hv => (h v hv).2) ?_
  exact Nat.le_trans (Nat.pow_le_pow_right (by decide) hl) (by decide)
theorem conv_zero (m : List Nat) : conv [0] m = m := by simp [conv]
theorem conv_pos {l m : List Nat} (h : ∀ a ∈ l, 1 ≤ a) : ∀ c ∈ conv l m, 1 ≤ c := fun c hc => by
  simp only [conv, List.mem_flatMap, List.mem_map] at hc
  obtain ⟨a, ha, b, _, rfl⟩ := hc
  have := h a ha; lia
theorem Zs.pos {l : List Nat} (h : Zs l) : ∀ c ∈ l, 1 ≤ c := fun c hc => by have := h.2 c hc; lia
theorem vmul_vec (a b n : Nat) : vmul (a, b) (vec n) = (a * n + a * sY (places n) + b * n, a * n + b * sY (places n)) := by simp only [vmul, vec]
theorem all_fold : ∀ (ns s : List Nat), (∀ a ∈ s, 1 ≤ a) → (∀ n ∈ ns, n < fib 80) →
    (sX (ns.foldl (fun s n => conv s (places n)) s), sY (ns.foldl (fun s n => conv s (places n)) s)) = vmul (sX s, sY s) (vprod ns)
  | [], s, _, _ => by simp [vprod, vmul]
  | n :: ns, s, hs, hn => by
    obtain ⟨p1, p2, _⟩ := places_ok (hn n (.head _))
    rw [List.foldl_cons, all_fold ns _ (conv_pos hs) fun x hx => hn x (.tail _ hx), sX_conv _ p2.pos _ hs, sY_conv _ p2.pos _ hs, p1]
    rw [vprod_cons, ← vmul_assoc, vmul_vec]
theorem all_is {n : Nat} {ns : List Nat} (h : ∀ x ∈ n :: ns, x < fib 80) : sX (allSums (n :: ns)) = (vprod (n :: ns)).1 := by
  obtain ⟨p1, p2, _⟩ := places_ok (h n (.head _))
  have e : allSums (n :: ns) = ns.foldl (fun s n => conv s (places n)) (places n) := by
    have e2 : allSums (n :: ns) = ns.foldl (fun s n => conv s (places n)) (conv [0] (places n)) := by
      unfold allSums conv; rw [List.foldl_cons]
    rw [e2, conv_zero]
  have := all_fold ns (places n) p2.pos fun x hx => h x (.tail _ hx)
  rw [e]
  rw [p1] at this
  exact congrArg Prod.fst this
theorem Zs.len : ∀ {l : List Nat} {p : Nat}, Zs l → (∀ c ∈ l, c ≤ p) → 2 * l.length ≤ p
  | [], _, _, _ => Nat.zero_le _
  | c :: l, p, ⟨h, h'⟩, hp => by
    rw [List.pairwise_cons] at h
    have h2 := h' c (.head _)
    have h3 := hp c (.head _)
    have := Zs.len (l := l) (p := c - 2) ⟨h.2, fun x hx => h' x (.tail _ hx)⟩ (fun x hx => by have := h.1 x hx; lia)
    rw [List.length_cons]; lia
theorem small_places {n : Nat} (h : n ≤ 88) : (∀ c ∈ places n, c ≤ 10) ∧ (places n).length ≤ 5 := by
  have h11 : fib 11 = 89 := by decide
  obtain ⟨p1, p2, _⟩ := places_ok (n := n) (Nat.lt_of_lt_of_le (by lia : n < fib 11) (fib_mono (by decide)))
  have bd : ∀ c ∈ places n, c ≤ 10 := fun c hc => by
    have := fib_lt (fib_le_sX hc) (show sX (places n) < fib 11 by lia); lia
  exact ⟨bd, by have := p2.len bd; lia⟩
end Mine
namespace Mine
open PySem PySem.W PyProof.Rows
local macro_rules | `(tactic| walk_at "mem") => `(tactic| first | with_reducible exact List.mem_cons_self | (with_reducible refine List.mem_cons_of_mem _ ?_; walk_at "mem"))
local macro_rules | `(tactic| walk_at "put") => `(tactic| first | with_reducible exact PutP.head | (with_reducible apply PutP.tail; walk_at "put"))
section
variable {prog : Program} {w : World} {A : Around} {K : Heap} {l m : List Nat} {nm bn : List (Str × Value)}
set_option pp.deepTerms false
set_option maxRecDepth 20000 in
set_option maxHeartbeats 1000000 in
theorem reduce_cl {T M f : Addr} {oT : Obj} {n : Nat} {st : Stmt} {p0 : PV} {ps : List PV} {kk : Nat} (acc : Nat → PV) (D : IsDefD (.ref T) K 30 (stm 3)) (hT : K.get? T = some oT) (hT2 : oT.data = .seq #[.ref M] n)
    (GG : Glb K nm bn) (g1 : (("_initial_missing" : Str), Value.ref M) ∈ nm) (b1 : (("iter" : Str), Value.builtin "iter") ∈ bn) (b2 : (("next" : Str), Value.builtin "next") ∈ bn) (DF : IsDef K f st)
    (room : Rm A (kk + 1)) (h0 : acc 0 = p0) (step : ∀ B, Rm B kk → ∀ i p, ps[i]? = some p → Cl prog w B K (.ref f) [acc i, p] (acc (i + 1))) :
    Cl prog w A K (.ref 30) [.val (.ref f), .list (p0 :: ps)] (acc ps.length) := fun c h vals u uc dv g d t o Q E k => by
  obtain ⟨vf, vl, rfl, dv⟩ := denL2 dv
  · refine enterPD (dV := .ref T) (vals := [vf, vl, .ref M]) (ps := [.val (.ref f), .list (p0 :: ps), .val (.ref M)]) ["function", "sequence", "initial"] ["it", "value", "element"] [] (D.up u) uc (GG.lim.keeps u) room (by simp only [DenL, Den] at dv ⊢; exact ⟨dv.1, dv.2.1, trivial, trivial⟩) (by simp) (by simp) (fun nm qn kV doc pm an cd ct => .of_defaults (T := T) rfl (uc _ _ (u _ _ hT)) hT2 rfl rfl) rfl (by kernel_rfl) ?_
    intro env h₁ t₁ e1 e2 e3 rm F
    simp only [List.map_cons, List.map_nil, List.zip_cons_cons, List.zip_nil_right, List.append_nil, List.cons_append, List.nil_append] at F
    have kk : GK env ["iter", "next", "_initial_missing"] := .of e2 e3 (by rw [e1]; kernel_rfl)
    have hh := rm.hd
    have sq := F
    refine wpAny_execs_cons (wpAny_Assign_Name (Call_ ((ev_bi GG kk (by walk_at "mem") b1).use u F fun c1 v1 h1 t1 y1 F1 d1 => ?_)))
    simp only [Den] at d1; subst d1
    refine PyProof.Rows.callWith_builtin1 (evl_cons (ev_name (by walk_at "mem")) evl_nil rfl _ _ _ (u.trans y1.cc) F1 _ _ _ _ _ _ fun c2 vs h2 t2 y2 F2 d2 => ?_) rfl rfl
    obtain ⟨v, rfl, d2⟩ := denL1 d2
    · simp only [DenL, Den] at d2; obtain ⟨⟨a, us, rfl, hp, dl⟩, _⟩ := d2
      have hl := den_list_iter hp F2.up
      have hne : a ≠ h2.objs.size := by obtain ⟨ob, ho, _⟩ := hl; exact Nat.ne_of_lt (Heap.lt_size ho)
      have nI : h2.get? h2.objs.size = none := fresh_none
      refine call_iter_list hl ?_
      have up1 : Up h2 (h2.push { cls := .type "list_iterator", data := .fields #[.ref a, .int 0 0] }) := up_push _
      have Fp := F2.ext (Ext.grow F2.up up1)
      have off : Off _ c2 env [] [h2.objs.size] := Off.fresh F2 fun b hb => by
        rw [List.mem_singleton.mp hb]
        refine ⟨nI, ?_⟩
        cases e : c2.get? h2.objs.size with
        | none => rfl
        | some ob => have := F2.up _ _ e; rw [nI] at this; cases this
      have liv : (h2.push { cls := .type "list_iterator", data := .fields #[.ref a, .int 0 0] }).get? h2.objs.size = some { cls := .type "list_iterator", data := .fields #[.ref a, .int 0 0] } := Heap.get?_push_size _ rfl
      obtain ⟨G', gf, F3, back, keep⟩ := Fp.rebase off fun b hb => by rw [List.mem_singleton.mp hb]; exact ⟨_, liv⟩
      have u2 : Up K c2 := (u.trans y1.cc).trans y2.cc
      refine F3.stn (x := "it") (p := .val (.ref h2.objs.size)) (by walk_at "put") (by simp [Den]) (.inl gf) fun h3 t3 F4 => ?_
      refine s_if (evb_cmp (ev_name (by walk_at "mem")) (ev_glob GG kk (by walk_at "mem") g1) cm_is_self) u2 F4 fun c5 h5 t5 u5 F5 => ?_
      rw [if_pos rfl]
      obtain ⟨off5, keep5⟩ := keep _ _ _ _ F5
      have liv5 := keep5 _ (List.mem_singleton.mpr rfl) _ liv
      have hit5 : h5.IsListIter h2.objs.size a 0 := ⟨_, liv5, rfl, rfl⟩
      have hl5 : h5.IsList a us.toArray := den_list_iter (hp.at fun ob => u5 a ob) F5.up
      have ul := dl.length
      obtain ⟨x0, xs, hus⟩ : ∃ x xs, us = x :: xs := by
        cases us with
        | nil => simp at ul
        | cons x xs => exact ⟨x, xs, rfl⟩
      subst hus
      have dl' := dl
      simp only [DenL] at dl'
      refine wpAny_execs_cons (wpAny_Try_except ?_)
      refine wpAny_execs_cons (wpAny_Assign_Name (Call_ ((ev_bi GG kk (by walk_at "mem") b2).use (u2.trans u5) F5 fun c6 v6 h6 t6 y6 F6 d6 => ?_)))
      simp only [Den] at d6; subst d6
      refine PyProof.Rows.callWith_builtin1 (evl_cons (ev_name (by walk_at "mem")) evl_nil rfl _ _ _ ((u2.trans u5).trans y6.cc) F6 _ _ _ _ _ _ fun c7 vs h7 t7 y7 F7 d7 => ?_) rfl rfl
      obtain ⟨v, rfl, d7⟩ := denL1 d7
      · simp only [DenL, Den] at d7; obtain ⟨rfl, _⟩ := d7
        have u7 : Up c2 c7 := (u5.trans y6.cc).trans y7.cc
        obtain ⟨off7, keep7⟩ := keep _ _ _ _ F7
        have liv7 := keep7 _ (List.mem_singleton.mpr rfl) _ liv
        have hit7 : h7.IsListIter h2.objs.size a 0 := ⟨_, liv7, rfl, rfl⟩
        have hl7 : h7.IsList a (x0 :: xs).toArray := den_list_iter (hp.at fun ob => u7 a ob) F7.up
        refine call_next_list (x := x0) hit7 hl7 (by simp) fun h8 hit8 hs8 => ?_
        have F8 := (back _ _ _ _ F7).1.away off7 (h' := h8) fun b ob n e => by rw [hs8.2 b (by simpa using n)]; exact e
        obtain ⟨ob8, ho8, hc8, hd8⟩ := id hit8
        obtain ⟨G9, gf9, F9, back9, keep9⟩ := F8.rebase off7 fun b hb => by rw [List.mem_singleton.mp hb]; exact ⟨_, ho8⟩
        refine F9.stn (x := "value") (p := p0) (by walk_at "put") (Den.up u7 _ dl'.1) (.inl gf9) fun h10 t10 F10 => ?_
        refine wpAny_execs_nil (wpAny_execs_nil (wpAny_execs_nil ?_))
        obtain ⟨off10, keep10⟩ := keep9 _ _ _ _ F10
        have hit10 : h10.IsListIter h2.objs.size a 1 := ⟨ob8, keep10 _ (List.mem_singleton.mpr rfl) _ ho8, hc8, hd8⟩
        have hl10 : h10.IsList a (x0 :: xs).toArray := den_list_iter (hp.at fun ob => u7 a ob) F10.up
        have F11 := (back9 _ _ _ _ F10).1
        have S : Src prog w (A.deeper env) c7 (.Name "element" ⟨37, 8, 37, 15⟩) ["element"] h2.objs.size [h2.objs.size, a] [h2.objs.size] (ps.map fun p => [p]) (fun i h => h.IsListIter h2.objs.size a (i + 1) ∧ h.IsList a (x0 :: xs).toArray) :=
          Src.drop1 (its := [p0]) (src_list (ps := p0 :: ps) hh hne (hp.at fun ob => u7 a ob) (DenL.up u7 _ dl))
        refine wpAny_execs_cons (wpAny_For (F11.ld (by walk_at "mem") fun v dv => ?_))
        simp only [Den] at dv; subst dv
        refine S.self 0 _ _ _ ⟨hit10, hl10⟩ ?_
        have off11 := off10
        refine r_forP S (fun y : PV × Option PV => [("function", some (.val (.ref f))), ("sequence", some (.list (p0 :: ps))), ("initial", some (.val (.ref M))), ("it", some (.val (.ref h2.objs.size))), ("value", some y.1), ("element", y.2)])
          (fun y its => [("function", some (.val (.ref f))), ("sequence", some (.list (p0 :: ps))), ("initial", some (.val (.ref M))), ("it", some (.val (.ref h2.objs.size))), ("value", some y.1), ("element", some (its.headD (.int 0)))])
          (fun _ => []) (fun i y _ => y.1 = acc i) (acc 0, none) (by rw [h0]; exact F11) off11 (.refl _) rfl ⟨hit10, hl10⟩ (.inl rfl) (fun y its hm => by
            obtain ⟨a, _, rfl⟩ := List.mem_map.mp hm
            exact .cons (.tail (.tail (.tail (.tail (.tail .head))))) .nil) ?_ ?_
        · rintro i its G2 c3 ⟨v1, v2⟩ h3 t3 hi gf2 u3 hj F3 back
          dsimp only at hj F3 ⊢
          subst hj
          obtain ⟨p, hp2, rfl⟩ : ∃ p, ps[i]? = some p ∧ its = [p] := by
            rw [List.getElem?_map] at hi
            cases e : ps[i]? with
            | none => rw [e] at hi; cases hi
            | some p => rw [e] at hi; exact ⟨p, rfl, by simpa using hi.symm⟩
          simp only [List.headD_cons] at F3
          refine s_asg (ev_callF (ev_name (by walk_at "mem")) DF (evl_cons (ev_name (by walk_at "mem")) (evl_cons (ev_name (by walk_at "mem")) evl_nil)) (step _ rm i p hp2)) ((u2.trans u7).trans u3) F3 (by walk_at "put") (fun c4 h4 t4 u4 F4 => ?_) gf2
          exact s_nil ⟨c4, (acc (i + 1), some p), h4, t4, rfl, F4, rfl⟩
        · rintro c3 ⟨v1, v2⟩ h3 t3 u3 hj F3
          dsimp only at hj F3 ⊢
          have hn : (ps.map fun p => [p]).length = ps.length := by simp
          rw [hn] at hj
          subst hj
          refine s_ret (ev_name (by walk_at "mem")) ((u2.trans u7).trans u3) F3 fun c' v h' t' x F' dv => ?_
          exact k _ _ _ _ F'.ex dv
end
end Mine
namespace Mine
open PySem PySem.W PyProof.Rows
local macro_rules | `(tactic| walk_at "mem") => `(tactic| first | with_reducible exact List.mem_cons_self | (with_reducible refine List.mem_cons_of_mem _ ?_; walk_at "mem"))
local macro_rules | `(tactic| walk_at "put") => `(tactic| first | with_reducible exact PutP.head | (with_reducible apply PutP.tail; walk_at "put"))
local macro_rules | `(tactic| walk_at "args2") => `(tactic| (refine args2 fun _ _ => ?_; intros; rfl))
/-- one sign told: the cell counted on, and noted where the sign is a mark -/
noncomputable def stepT (told : List Nat) (s : Nat) : List Nat := (told.headD 0 + (if s = 34 then 2 else 1)) :: told.drop 1 ++ (if s = 34 then [told.headD 0 + 2] else [])
section
variable {prog : Program} {w : World} {A : Around} {K : Heap} {nm bn : List (Str × Value)}
set_option pp.deepTerms false
set_option maxRecDepth 20000 in
theorem law_step_cl {a : Nat} {r : List Nat} {s : Nat} (D : IsDef K 130 (stm 19)) (lim : K.NoLimit) (room : Rm A 1) (hz : r.length < 100000) : Cl prog w A K (.ref 130) [.list (nats (a :: r)), .str [s]] (.list (nats (stepT (a :: r) s))) := by
  refine cl_of ["told", "sign"] ["cell"] D lim room (by walk_at "args2") rfl (by kernel_rfl) ?_
  intro env G c h g d t o Q gf e1 e2 e3 rm u F k
  simp only [List.map_cons, List.map_nil, List.zip_cons_cons, List.zip_nil_right, List.cons_append, List.nil_append] at F
  have lz : (nats (a :: r)).length < 1000000 := by rw [nats_len]; simp; lia
  refine s_asg (p := .int ((a + (if s = 34 then 2 else 1) : Nat) : Int)) (Ev.cast (p := .int ((a : Nat) + ((if s = 34 then 2 else 1 : Nat) : Int))) (congrArg PV.int (by lia)) (ev_bin (ev_sub (ev_name (by walk_at "mem")) ev_int (it_item (i := 0) (p := .int (a : Nat)) rfl (by lia)))
    (ev_if (b := decide ([s] = [34])) (evb_cmp (ev_name (by walk_at "mem")) (ev_str (l := [34]) (by kernel_rfl)) cm_seq)
      (fun hb => Ev.cast (by rw [if_pos (by simpa using hb)]; rfl) ev_int) (fun hb => Ev.cast (by rw [if_neg (by simpa using hb)]; rfl) ev_int)) op_add)) u F (by walk_at "put") fun c1 h1 t1 u1 F1 => ?_
  refine s_ret (Ev.cast (p := .list (([PV.int ((a + (if s = 34 then 2 else 1) : Nat) : Int)] ++ nats r) ++ (if s = 34 then [PV.int ((a + (if s = 34 then 2 else 1) : Nat) : Int)] else []))) ?_ (ev_bin (ev_bin (ev_list (evl_cons (ev_name (by walk_at "mem")) evl_nil)) (Ev.cast (congrArg PV.list (show slc (nats (a :: r)) (some ((1 : Nat) : Int)) none = nats r by rw [slc_from]; rfl)) (ev_lslice (ev_name (by walk_at "mem")) (evo_some ev_int) evo_none lz)) (op_ladd (by rw [nats_len]; simp; lia)))
    (ev_if (b := decide ([s] = [34])) (evb_cmp (ev_name (by walk_at "mem")) (ev_str (l := [34]) (by kernel_rfl)) cm_seq)
      (fun hb => Ev.cast (congrArg PV.list (if_pos (by simpa using hb)).symm) (ev_list (evl_cons (ev_name (by walk_at "mem")) evl_nil)))
      (fun hb => Ev.cast (congrArg PV.list (if_neg (by simpa using hb)).symm) (ev_list evl_nil (by decide)))) (op_ladd (by rw [List.length_append, nats_len]; split <;> simp <;> lia)))) (.refl c1) F1 fun c' v h' t' x F' dv => k _ _ _ _ _ _ F' dv
  by_cases hs : s = 34
  · simp [stepT, nats, hs]
  · simp [stepT, nats, hs]
end
end Mine
namespace Mine
/-- the cells c down to 1 -/
noncomputable def cellsL (P : List Nat) : Nat → List Nat
  | 0 => []
  | 1 => [33]
  | c + 2 => if c + 2 ∈ P then 34 :: 34 :: cellsL P c else 33 :: cellsL P (c + 1)
noncomputable def marksL (P : List Nat) : Nat → List Nat
  | 0 => []
  | 1 => [33]
  | c + 2 => if c + 2 ∈ P then 34 :: marksL P c else 33 :: marksL P (c + 1)
noncomputable def textOf (P : List Nat) : List Nat := cellsL P (maxN P)
noncomputable def replyL (n : Nat) : List Nat := 50 :: 53 :: 55 :: 32 :: 34 :: (textOf (places n) ++ [34])
theorem parseL_33 (r : List Nat) : parseL (33 :: r) = 33 :: parseL r := parseL_ne (by decide)
theorem parseL_34 (r : List Nat) : parseL (34 :: 34 :: r) = 34 :: parseL r := by simp [parseL]
theorem parse_cells (P : List Nat) : ∀ c, parseL (cellsL P c ++ [34]) = marksL P c
  | 0 => by simp [cellsL, marksL, parseL]
  | 1 => by simp [cellsL, marksL, parseL]
  | c + 2 => by
    unfold cellsL marksL
    split
    · rw [List.cons_append, List.cons_append, parseL_34, parse_cells P c]
    · rw [List.cons_append, parseL_33, parse_cells P (c + 1)]
theorem cells_len (P : List Nat) : ∀ c, (cellsL P c).length = c ∧ (marksL P c).length ≤ c
  | 0 => by simp [cellsL, marksL]
  | 1 => by simp [cellsL, marksL]
  | c + 2 => by
    have h1 := cells_len P c
    have h2 := cells_len P (c + 1)
    unfold cellsL marksL
    split <;> simp only [List.length_cons] <;> lia
/-- the places up to c, the lowest first -/
noncomputable def upTo (P : List Nat) (c : Nat) : List Nat := (List.range (c + 1)).filter (fun x => decide (x ∈ P))
theorem upTo_succ (P : List Nat) (c : Nat) : upTo P (c + 1) = upTo P c ++ (if c + 1 ∈ P then [c + 1] else []) := by
  unfold upTo
  rw [List.range_succ (n := c + 1), List.filter_append]
  congr 1
  split <;> rename_i h <;> simp [h]
theorem read_marks {P : List Nat} (h : Zs P) : ∀ c, (marksL P c).foldr (fun s t => stepT t s) [0] = c :: upTo P c
  | 0 => by
    have : (0 : Nat) ∉ P := fun q => by have := h.2 0 q; lia
    simp [marksL, upTo, this]
  | 1 => by
    have h0 : (0 : Nat) ∉ P := fun q => by have := h.2 0 q; lia
    have h1 : (1 : Nat) ∉ P := fun q => by have := h.2 1 q; lia
    simp [marksL, upTo, stepT, List.range_succ, h0, h1]
  | c + 2 => by
    have i1 := read_marks h c
    have i2 := read_marks h (c + 1)
    unfold marksL
    by_cases e : c + 2 ∈ P
    · have e1 : c + 1 ∉ P := fun q => by
        have key : ∀ l : List Nat, l.Pairwise (fun a b => b + 2 ≤ a) → c + 2 ∈ l → c + 1 ∈ l → False := by
          intro l
          induction l with
          | nil => intro _ m _; simp at m
          | cons a l ih =>
            intro hp m1 m2
            rw [List.pairwise_cons] at hp
            rcases List.mem_cons.mp m1 with x | x <;> rcases List.mem_cons.mp m2 with y | y
            · lia
            · have := hp.1 _ y; lia
            · have := hp.1 _ x; lia
            · exact ih hp.2 x y
        exact key P h.1 e q
      rw [if_pos e, List.foldr_cons, i1, upTo_succ, if_pos e, upTo_succ, if_neg e1]
      simp [stepT]
    · rw [if_neg e, List.foldr_cons, i2, upTo_succ P (c + 1), if_neg e]
      simp [stepT]
theorem upTo_all {P : List Nat} (h : Zs P) : upTo P (maxN P) = P.reverse := by
  have lt1 : (upTo P (maxN P)).Pairwise (· < ·) := (List.pairwise_lt_range).filter _
  have lt2 : P.reverse.Pairwise (· < ·) := h.rev.imp fun hh => by lia
  refine List.Perm.eq_of_pairwise (fun a b _ _ h1 h2 => by lia) lt1 lt2 ?_
  refine (List.perm_ext_iff_of_nodup (lt1.imp fun hh => Nat.ne_of_lt hh) (lt2.imp fun hh => Nat.ne_of_lt hh)).mpr fun x => ?_
  unfold upTo
  rw [List.mem_filter, List.mem_range, List.mem_reverse, decide_eq_true_eq]
  exact ⟨fun q => q.2, fun q => ⟨by have := maxN_ge q; lia, q⟩⟩
/-- what is read of a reply -/
noncomputable def readM (P : List Nat) : List Nat := ((marksL P (maxN P)).reverse.foldl stepT [0]).drop 1
theorem readM_is {P : List Nat} (h : Zs P) : readM P = P.reverse := by
  unfold readM
  rw [List.foldl_reverse, read_marks h, upTo_all h]; rfl
/-- the units of a row of marks and ! -/
noncomputable def good : List Nat → Bool
  | [] => true
  | 33 :: r => good r
  | 34 :: 34 :: r => good r
  | _ => false
theorem good_33 (r : List Nat) : good (33 :: r) = good r := by rw [good]
theorem good_34 (r : List Nat) : good (34 :: 34 :: r) = good r := by rw [good]
theorem good_cells (P : List Nat) : ∀ c, good (cellsL P c) = true
  | 0 => rfl
  | 1 => rfl
  | c + 2 => by
    unfold cellsL
    split
    · rw [good_34]; exact good_cells P c
    · rw [good_33]; exact good_cells P (c + 1)
/-- the places of the units -/
noncomputable def plOf : List Nat → List Nat
  | [] => []
  | 33 :: r => plOf r
  | 34 :: 34 :: r => (r.length + 2) :: plOf r
  | _ => []
/-- the marks' worths -/
noncomputable def wl : List Nat → List Nat
  | [] => []
  | s :: r => if s = 34 then r.length :: wl r else wl r
/-- rows of marks and ! -/
noncomputable def Row (u : List Nat) : Prop := ∀ s ∈ u, s = 33 ∨ s = 34
theorem row_cases {u : List Nat} (h : Row u) : u = [] ∨ (∃ r, u = 33 :: r) ∨ u = [34] ∨ (∃ r, u = 34 :: 33 :: r) ∨ ∃ r, u = 34 :: 34 :: r := by
  match u, h with
  | [], _ => exact .inl rfl
  | [a], h =>
    rcases h a (.head _) with rfl | rfl
    · exact .inr (.inl ⟨_, rfl⟩)
    · exact .inr (.inr (.inl rfl))
  | a :: b :: r, h =>
    rcases h a (.head _) with rfl | rfl
    · exact .inr (.inl ⟨_, rfl⟩)
    · rcases h b (.tail _ (.head _)) with rfl | rfl
      · exact .inr (.inr (.inr (.inl ⟨r, rfl⟩)))
      · exact .inr (.inr (.inr (.inr ⟨r, rfl⟩)))
theorem good_all (k : Nat) : ∀ u : List Nat, u.length ≤ k → Row u → good u = true →
    sX (wl u) = sX (plOf u) ∧ Zs (plOf u) ∧ (∀ c ∈ plOf u, c ≤ u.length) ∧ (∃ v, parseL (u ++ [120]) = v ++ [120]) ∧ ∀ P : List Nat, (∀ c, c ≤ u.length → (c ∈ P ↔ c ∈ plOf u)) → cellsL P u.length = u := by
  induction k with
  | zero =>
    intro u hk _ _
    have : u = [] := List.length_eq_zero_iff.mp (by lia)
    subst this
    exact ⟨rfl, ⟨.nil, by simp [plOf]⟩, by simp [plOf], ⟨[], by simp [parseL]⟩, fun P _ => rfl⟩
  | succ k ih =>
    intro u hk hr hg
    rcases row_cases hr with rfl | ⟨r, rfl⟩ | rfl | ⟨r, rfl⟩ | ⟨r, rfl⟩
    · exact ⟨rfl, ⟨.nil, by simp [plOf]⟩, by simp [plOf], ⟨[], by simp [parseL]⟩, fun P _ => rfl⟩
    · rw [good_33] at hg
      obtain ⟨a, b, c, ⟨v, hv⟩, e⟩ := ih r (by simp at hk; lia) (fun s hs => hr s (.tail _ hs)) hg
      have ew : wl (33 :: r) = wl r := rfl
      have ep : plOf (33 :: r) = plOf r := by rw [plOf]
      rw [ew, ep]
      refine ⟨a, b, fun x hx => by have := c x hx; simp; lia, ⟨33 :: v, by rw [List.cons_append, parseL_33, hv]; rfl⟩, fun P hP => ?_⟩
      have er := e P fun x hx => hP x (by simp; lia)
      have hn : r.length + 1 ∉ P := fun q => by
        have := c _ ((hP (r.length + 1) (by simp)).mp q)
        lia
      rw [List.length_cons]
      cases r with
      | nil => rfl
      | cons s r =>
        rw [List.length_cons] at hn er ⊢
        show (if r.length + 2 ∈ P then _ else _) = _
        rw [if_neg hn]
        exact congrArg _ er
    · simp [good] at hg
    · simp [good] at hg
    · rw [good_34] at hg
      obtain ⟨a, ⟨b, b'⟩, c, ⟨v, hv⟩, e⟩ := ih r (by simp at hk; lia) (fun s hs => hr s (.tail _ (.tail _ hs))) hg
      have ew : wl (34 :: 34 :: r) = (r.length + 1) :: r.length :: wl r := rfl
      have ep : plOf (34 :: 34 :: r) = (r.length + 2) :: plOf r := by rw [plOf]
      rw [ew, ep]
      refine ⟨?_, ⟨.cons (fun x hx => by have := c x hx; lia) b, fun x hx => ?_⟩, fun x hx => ?_, ⟨34 :: v, by rw [List.cons_append, List.cons_append, parseL_34, hv]; rfl⟩, fun P hP => ?_⟩
      · rw [sX_cons, sX_cons, sX_cons, a, fib_2]; lia
      · rcases List.mem_cons.mp hx with rfl | hx
        · lia
        · exact b' x hx
      · rcases List.mem_cons.mp hx with rfl | hx
        · simp
        · have := c x hx; simp; lia
      · have hm : r.length + 2 ∈ P := (hP (r.length + 2) (by simp)).mpr (.head _)
        rw [List.length_cons, List.length_cons]
        show (if r.length + 2 ∈ P then _ else _) = _
        rw [if_pos hm]
        have er := e P fun x hx => by
          rw [hP x (by simp; lia), List.mem_cons]
          exact ⟨fun q => by rcases q with q | q; lia; exact q, .inr⟩
        rw [er]
theorem bad_parse (k : Nat) : ∀ u : List Nat, u.length ≤ k → Row u → good u = false → (120 : Nat) ∉ parseL (u ++ [120]) := by
  induction k with
  | zero =>
    intro u hk _ hg
    have : u = [] := List.length_eq_zero_iff.mp (by lia)
    subst this
    simp [good] at hg
  | succ k ih =>
    intro u hk hr hg
    rcases row_cases hr with rfl | ⟨r, rfl⟩ | rfl | ⟨r, rfl⟩ | ⟨r, rfl⟩
    · simp [good] at hg
    · rw [good_33] at hg
      rw [List.cons_append, parseL_33]
      have := ih r (by simp at hk; lia) (fun s hs => hr s (.tail _ hs)) hg
      simpa using this
    · simp [parseL]
    · simp [parseL]
    · rw [good_34] at hg
      rw [List.cons_append, List.cons_append, parseL_34]
      have := ih r (by simp at hk; lia) (fun s hs => hr s (.tail _ (.tail _ hs))) hg
      simpa using this
/-- the row of a number of twelve figures -/
noncomputable def worthT (n : Nat) : List Nat := 34 :: (List.range 12).map fun i => if n / 2 ^ (11 - i) % 2 = 1 then 34 else 33
theorem worth_row (n : Nat) : Row (worthT n) := fun s hs => by
  unfold worthT at hs
  rcases List.mem_cons.mp hs with rfl | hs
  · exact .inr rfl
  · obtain ⟨i, _, rfl⟩ := List.mem_map.mp hs
    split
    · exact .inr rfl
    · exact .inl rfl
theorem wl_lt : ∀ u : List Nat, ∀ c ∈ wl u, c < u.length
  | [], c, h => by simp [wl] at h
  | s :: r, c, h => by
    unfold wl at h
    split at h
    · rcases List.mem_cons.mp h with rfl | h
      · simp
      · have := wl_lt r c h; simp; lia
    · have := wl_lt r c h; simp; lia
theorem wl_len (u : List Nat) : (wl u).length ≤ u.length := by
  induction u with
  | nil => simp [wl]
  | cons s r ih => unfold wl; split <;> simp <;> lia
theorem sum_small : ∀ (l : List Nat) (b : Nat), (∀ c ∈ l, fib c ≤ b) → sX l ≤ l.length * b
  | [], b, _ => by simp [sX]
  | a :: l, b, h => by
    have := sum_small l b fun c hc => h c (.tail _ hc)
    have := h a (.head _)
    rw [sX_cons, List.length_cons, Nat.succ_mul]; lia
theorem worth_lt {u : List Nat} (h : u.length = 13) : sX (wl u) < fib 46 := by
  have h12 : fib 12 = 144 := fib_at (by decide +kernel)
  have := sum_small (wl u) 144 fun c hc => by rw [← h12]; exact fib_mono (by have := wl_lt u c hc; lia)
  have := wl_len u
  have h3 : (wl u).length * 144 ≤ 13 * 144 := Nat.mul_le_mul_right _ (by lia)
  rw [fib_46]; lia
theorem head_max {u : List Nat} (h : good (34 :: u) = true) (hr : Row (34 :: u)) : maxN (plOf (34 :: u)) = u.length + 1 := by
  obtain ⟨_, _, c, _⟩ := good_all _ _ (Nat.le_refl _) hr h
  rcases row_cases hr with e | ⟨r, e⟩ | e | ⟨r, e⟩ | ⟨r, e⟩
  · cases e
  · cases e
  · cases e; simp [good] at h
  · cases e; simp [good] at h
  · cases e
    have ep : plOf (34 :: 34 :: r) = (r.length + 2) :: plOf r := by rw [plOf]
    have h1 := maxN_ge (l := plOf (34 :: 34 :: r)) (x := r.length + 2) (by rw [ep]; exact .head _)
    have h2 := maxN_mem (plOf (34 :: 34 :: r))
    rcases List.mem_cons.mp h2 with q | q
    · lia
    · have := c _ q; simp at this ⊢; lia
/-- a row of thirteen cells is told to its end just where it is the row of its worth -/
theorem worth_ok (n : Nat) : decide ((parseL (worthT n ++ [120])).drop ((parseL (worthT n ++ [120])).length - 1) = [120]) = decide (replyL (sX (wl (worthT n))) = 50 :: 53 :: 55 :: 32 :: 34 :: (worthT n ++ [34])) := by
  have hr := worth_row n
  have hl : (worthT n).length = 13 := by simp [worthT]
  have e0 : worthT n = 34 :: (List.range 12).map fun i => if n / 2 ^ (11 - i) % 2 = 1 then 34 else 33 := rfl
  have hx := worth_lt hl
  generalize hu : worthT n = u at *
  cases hg : good u with
  | true =>
    obtain ⟨a, b, c, ⟨v, hv⟩, e⟩ := good_all _ _ (Nat.le_refl _) hr hg
    have e1 : places (sX (wl u)) = plOf u := by rw [a]; exact places_uniq b fun x hx => by have := c x hx; lia
    have e2 : maxN (plOf u) = u.length := by
      generalize (List.range 12).map (fun i => if n / 2 ^ (11 - i) % 2 = 1 then 34 else 33) = r at e0
      subst e0
      exact head_max hg hr
    have e3 : replyL (sX (wl u)) = 50 :: 53 :: 55 :: 32 :: 34 :: (u ++ [34]) := by
      unfold replyL textOf
      rw [e1, e2, e (plOf u) fun _ _ => Iff.rfl]
    rw [decide_eq_true e3, decide_eq_true_eq, hv]
    simp
  | false =>
    have e1 := bad_parse _ _ (Nat.le_refl _) hr hg
    rw [decide_eq_false (fun q => e1 (List.mem_of_mem_drop (by rw [q]; exact .head _))), eq_comm, decide_eq_false_iff_not]
    intro q
    unfold replyL at q
    simp only [List.cons.injEq, true_and] at q
    have q2 := List.append_cancel_right q
    have := good_cells (places (sX (wl u))) (maxN (places (sX (wl u))))
    unfold textOf at q2
    rw [q2, hg] at this; cases this
/-- the replies' order -/
theorem cmpT_neg {l m : List Nat} : cmpT l m < 0 ↔ l.length < m.length ∨ (l.length = m.length ∧ l < m) := by
  unfold cmpT
  by_cases h : l.length = m.length
  · rw [if_pos h]
    by_cases h1 : l < m
    · have h2 : ¬ m < l := fun q => List.lt_irrefl _ (List.lt_trans h1 q)
      simp [h, h1, h2]
    · simp only [h, h1, if_false, Nat.lt_irrefl, and_false, or_false, iff_false]
      split <;> lia
  · rw [if_neg h]; lia
theorem cmpT_trans {l m k : List Nat} (h1 : cmpT l m < 0) (h2 : cmpT m k < 0) : cmpT l k < 0 := by
  rw [cmpT_neg] at *
  rcases h1 with h1 | ⟨h1, h1'⟩ <;> rcases h2 with h2 | ⟨h2, h2'⟩
  · left; lia
  · left; lia
  · left; lia
  · right; exact ⟨by lia, List.lt_trans h1' h2'⟩
theorem cmpT_pre {l m k : List Nat} (h1 : ¬ cmpT m l < 0) (h2 : ¬ cmpT k m < 0) : ¬ cmpT k l < 0 := by
  rw [cmpT_neg] at *
  intro h
  have h1' : ¬ m.length < l.length := fun q => h1 (.inl q)
  have h2' : ¬ k.length < m.length := fun q => h2 (.inl q)
  rcases h with h | ⟨h, h'⟩
  · lia
  · have e1 : l.length = m.length := by lia
    have e2 : m.length = k.length := by lia
    have a1 : ¬ m < l := fun q => h1 (.inr ⟨e1.symm, q⟩)
    have a2 : ¬ k < m := fun q => h2 (.inr ⟨e2.symm, q⟩)
    exact (List.not_lt.mpr (List.le_trans (List.not_lt.mp a1) (List.not_lt.mp a2))) h'
theorem places_small {n : Nat} (h : n < 89) : places n = gr 9 n := by
  have h11 : fib (9 + 2) = 89 := by decide
  obtain ⟨a, b, c⟩ := gr_ok 9 n (h11 ▸ h)
  conv => lhs; rw [← a]
  exact places_uniq b fun x hx => by have := c x hx; lia
theorem order_step : ∀ n : Fin 88, cmpT (50 :: 53 :: 55 :: 32 :: 34 :: (textOf (gr 9 n.val) ++ [34])) (50 :: 53 :: 55 :: 32 :: 34 :: (textOf (gr 9 (n.val + 1)) ++ [34])) < 0 := by decide +kernel
theorem order_lt {a : Nat} : ∀ {b : Nat}, a < b → b < 89 → cmpT (replyL a) (replyL b) < 0
  | 0, h, _ => by lia
  | b + 1, h, hb => by
    have hs := order_step ⟨b, by lia⟩
    have e1 : replyL b = 50 :: 53 :: 55 :: 32 :: 34 :: (textOf (gr 9 b) ++ [34]) := by unfold replyL; rw [places_small (by lia)]
    have e2 : replyL (b + 1) = 50 :: 53 :: 55 :: 32 :: 34 :: (textOf (gr 9 (b + 1)) ++ [34]) := by unfold replyL; rw [places_small hb]
    simp only at hs
    rw [← e1, ← e2] at hs
    by_cases e : a = b
    · rw [e]; exact hs
    · exact cmpT_trans (order_lt (b := b) (by lia) (by lia)) hs
theorem cmpT_self (l : List Nat) : cmpT l l = 0 := by simp [cmpT, List.lt_irrefl]
theorem replyL_inj {a b : Nat} (ha : a < 89) (hb : b < 89) (h : replyL a = replyL b) : a = b := by
  rcases Nat.lt_trichotomy a b with q | q | q
  · have := order_lt q hb; rw [h, cmpT_self] at this; lia
  · exact q
  · have := order_lt q ha; rw [h, cmpT_self] at this; lia
end Mine
namespace Mine
open PySem PySem.W PyProof.Rows
local macro_rules | `(tactic| walk_at "mem") => `(tactic| first | with_reducible exact List.mem_cons_self | (with_reducible refine List.mem_cons_of_mem _ ?_; walk_at "mem"))
local macro_rules | `(tactic| walk_at "put") => `(tactic| first | with_reducible exact PutP.head | (with_reducible apply PutP.tail; walk_at "put"))
section
variable {prog : Program} {w : World} {A : Around} {K c c' h h' : Heap} {G : Org} {env : Env} {ρ ρ' : Vars} {R R' : Led} {g : Array GenState} {d : Drawn} {t : Nat} {o : OsState} {l m : List Nat} {nm bn : List (Str × Value)}
/-- a list is no other object -/
theorem evb_isM {M : Addr} {oM : Obj} {ps : List PV} {e1 e2 : Expr} {pos : Pos} (hM : K.get? M = some oM) (cM : oM.cls = .type "object") (x1 : Ev prog w A K env ρ R e1 (.list ps)) (x2 : Ev prog w A K env ρ R e2 (.val (.ref M))) (hm : behindInMarks .Is e2 = false := by with_unfolding_all rfl) :
    EvB prog w A K env ρ R (.Compare e1 [.Is] [e2] pos) false := fun _ _ _ u F _ _ _ _ _ _ k =>
  wpAny_isTrue_Compare1 (x1.use u F fun c1 v1 h1 _ y1 F1 d1 => x2.use (u.trans y1.cc) F1 fun c2 v2 h2 _ y2 F2 d2 => by
    simp only [Den] at d1 d2
    obtain ⟨a, vs, rfl, ⟨n, ha⟩, _⟩ := d1
    subst d2
    have ha := F2.up _ _ (y2.cc _ _ ha)
    have hM := F2.up _ _ (y2.cc _ _ (y1.cc _ _ (u _ _ hM)))
    have ne : a ≠ M := fun e => by subst e; rw [ha] at hM; cases hM; injection cM with e; exact absurd e (by decide)
    exact wpAny_is_ref_other ne ha hM (fun q => by injection q with e; exact absurd e (by decide)) (wpAny_truthy_bool (k _ _ _ (y1.trans y2)))) hm
/-- iter of a text -/
theorem call_iter_text {tk : Tok} {Q E : Value → Shared → Prop} (ha : (tx l).cps.all (· < 128) = true)
    (k : ∀ h1, h1 = h.push { cls := .type "str_ascii_iterator", data := .fields #[.str (tx l) tk, .int 0 0] } → Q (.ref h.objs.size) ⟨h1, g, d, t, o⟩) : wpAny (model prog w) A (call (.builtin "iter") [.str (tx l) tk]) Q E ⟨h, g, d, t, o⟩ := by
  refine Calls.call_function_entry (by decide +kernel) (by decide +kernel) kdk_entry_iter (kdk_args_iter _) ?_
  unfold Builtin.«iter»
  refine wpAny_bind (m := someArgs "iter" 1 2 _) (wpAny_of_eq (a := [Value.str (tx l) tk]) (by first | rfl | kernel_rfl!) ?_)
  show wpAny _ _ (pyIter (.str (tx l) tk) >>= _) _ _ _
  exact wpAny_bind (wpAny_pyIter_ascii ha (wpAny_pure ⟨_, rfl, k _ rfl⟩))
theorem src_text {x : Str} {px : Pos} {I : Addr} {tk : Tok} (hh : A.handled = none) : Src prog w A K (.Name x px) [x] I [I] [I] (l.map fun s => [PV.str [s]]) (fun i h => h.IsStrIter I "str_ascii_iterator" (tx l) tk i) := by
  have e : (l.map fun s => [PV.str [s]]) = (l.map fun s => PV.str [s]).map fun p => [p] := by rw [List.map_map]; rfl
  rw [e]
  refine .ofWalks (Walks.strAscii hh I (tx l) tk) (by simp [tx]) ?_ (fun b hb => .inl hb) ?_
  · rintro i v ⟨s, u, hs, rfl⟩
    refine ⟨PV.str [s], ?_, ?_⟩
    · have : l[i]? = some s := by simpa [tx] using hs
      rw [List.getElem?_map, this]; rfl
    · simp [Den, tx]
  · rintro i h ⟨ob, ho, _⟩ b hb
    rw [List.mem_singleton.mp hb]; exact ⟨ob, ho⟩
set_option pp.deepTerms false
set_option maxRecDepth 20000 in
set_option maxHeartbeats 1000000 in
theorem reduceT_cl {T M f : Addr} {oM oT : Obj} {n : Nat} {st : Stmt} {ps0 : List PV} {kk : Nat} (acc : Nat → PV) (D : IsDefD (.ref T) K 30 (stm 3)) (hT : K.get? T = some oT) (hT2 : oT.data = .seq #[.ref M] n) (hM : K.get? M = some oM) (cM : oM.cls = .type "object") (hl : (tx l).cps.all (· < 128) = true)
    (GG : Glb K nm bn) (g1 : (("_initial_missing" : Str), Value.ref M) ∈ nm) (b1 : (("iter" : Str), Value.builtin "iter") ∈ bn) (DF : IsDef K f st)
    (room : Rm A (kk + 1)) (h0 : acc 0 = .list ps0) (step : ∀ B, Rm B kk → ∀ i s, l[i]? = some s → Cl prog w B K (.ref f) [acc i, .str [s]] (acc (i + 1))) :
    Cl prog w A K (.ref 30) [.val (.ref f), .str l, .list ps0] (acc l.length) := fun c h vals u uc dv g d t o Q E k => by
  obtain ⟨vf, vl, vi, rfl, dv⟩ := denL3 dv
  · refine enterPD (dV := .ref T) (vals := [vf, vl, vi]) (ps := [.val (.ref f), .str l, .list ps0]) ["function", "sequence", "initial"] ["it", "value", "element"] [] (D.up u) uc (GG.lim.keeps u) room (by simp only [DenL]; exact dv) (by simp) (by simp) (fun nm qn kV doc pm an cd ct => .of_defaults (T := T) rfl (uc _ _ (u _ _ hT)) hT2 rfl rfl) rfl (by kernel_rfl) ?_
    intro env h₁ t₁ e1 e2 e3 rm F
    simp only [List.map_cons, List.map_nil, List.zip_cons_cons, List.zip_nil_right, List.cons_append, List.nil_append] at F
    have kk : GK env ["iter", "_initial_missing"] := .of e2 e3 (by rw [e1]; kernel_rfl)
    have hh := rm.hd
    refine wpAny_execs_cons (wpAny_Assign_Name (Call_ ((ev_bi GG kk (by walk_at "mem") b1).use u F fun c1 v1 h1 t1 y1 F1 d1 => ?_)))
    simp only [Den] at d1; subst d1
    refine PyProof.Rows.callWith_builtin1 (evl_cons (ev_name (by walk_at "mem")) evl_nil rfl _ _ _ (u.trans y1.cc) F1 _ _ _ _ _ _ fun c2 vs h2 t2 y2 F2 d2 => ?_) rfl rfl
    obtain ⟨v, rfl, d2⟩ := denL1 d2
    · simp only [DenL, Den] at d2; obtain ⟨⟨tk, rfl⟩, _⟩ := d2
      have nI : h2.get? h2.objs.size = none := fresh_none
      refine call_iter_text hl fun h3 eh => ?_
      have up1 : Up h2 h3 := by rw [eh]; exact up_push _
      have Fp := F2.ext (Ext.grow F2.up up1)
      have off : Off _ c2 env [] [h2.objs.size] := Off.fresh F2 fun b hb => by
        rw [List.mem_singleton.mp hb]
        refine ⟨nI, ?_⟩
        cases e : c2.get? h2.objs.size with
        | none => rfl
        | some ob => have := F2.up _ _ e; rw [nI] at this; cases this
      have liv : h3.get? h2.objs.size = some { cls := .type "str_ascii_iterator", data := .fields #[.str (tx l) tk, .int 0 0] } := by rw [eh]; exact Heap.get?_push_size _ rfl
      obtain ⟨G', gf, F3, back, keep⟩ := Fp.rebase off fun b hb => by rw [List.mem_singleton.mp hb]; exact ⟨_, liv⟩
      have u2 : Up K c2 := (u.trans y1.cc).trans y2.cc
      refine F3.stn (x := "it") (p := .val (.ref h2.objs.size)) (by walk_at "put") (by simp [Den]) (.inl gf) fun h4 t4 F4 => ?_
      refine s_if (evb_isM hM cM (ev_name (by walk_at "mem")) (ev_glob GG kk (by walk_at "mem") g1)) u2 F4 fun c5 h5 t5 u5 F5 => ?_
      rw [if_neg Bool.false_ne_true]
      refine s_asg (p := .list ps0) (ev_name (by walk_at "mem")) (.refl _) F5 (by walk_at "put") (fun c6 h6 t6 u6 F6 => s_nil ?_) gf
      obtain ⟨off6, keep6⟩ := keep _ _ _ _ F6
      have S : Src prog w (A.deeper env) c6 (.Name "element" ⟨37, 8, 37, 15⟩) ["element"] h2.objs.size [h2.objs.size] [h2.objs.size] (l.map fun s => [PV.str [s]]) (fun i h => h.IsStrIter h2.objs.size "str_ascii_iterator" (tx l) tk i) := src_text hh
      have hs0 : h6.IsStrIter h2.objs.size "str_ascii_iterator" (tx l) tk 0 := ⟨_, keep6 _ (List.mem_singleton.mpr rfl) _ liv, rfl, rfl⟩
      refine wpAny_execs_cons (wpAny_For ((back _ _ _ _ F6).1.ld (by walk_at "mem") fun v dv => ?_))
      simp only [Den] at dv; subst dv
      refine S.self 0 _ _ _ hs0 ?_
      refine r_forP S (fun y : PV × Option PV => [("function", some (.val (.ref f))), ("sequence", some (.str l)), ("initial", some (.list ps0)), ("it", some (.val (.ref h2.objs.size))), ("value", some y.1), ("element", y.2)])
        (fun y its => [("function", some (.val (.ref f))), ("sequence", some (.str l)), ("initial", some (.list ps0)), ("it", some (.val (.ref h2.objs.size))), ("value", some y.1), ("element", some (its.headD (.int 0)))])
        (fun _ => []) (fun i y _ => y.1 = acc i) (acc 0, none) (by rw [h0]; exact (back _ _ _ _ F6).1) off6 (.refl _) rfl hs0 (.inl rfl) (fun y its hm => by
          obtain ⟨a, _, rfl⟩ := List.mem_map.mp hm
          exact .cons (.tail (.tail (.tail (.tail (.tail .head))))) .nil) ?_ ?_
      · rintro i its G2 c3 ⟨v1, v2⟩ h3 t3 hi gf2 u3 hj F3 back
        dsimp only at hj F3 ⊢
        subst hj
        obtain ⟨s, hs, rfl⟩ : ∃ s, l[i]? = some s ∧ its = [.str [s]] := by
          rw [List.getElem?_map] at hi
          cases e : l[i]? with
          | none => rw [e] at hi; cases hi
          | some p => rw [e] at hi; exact ⟨p, rfl, by simpa using hi.symm⟩
        simp only [List.headD_cons] at F3
        refine s_asg (ev_callF (ev_name (by walk_at "mem")) DF (evl_cons (ev_name (by walk_at "mem")) (evl_cons (ev_name (by walk_at "mem")) evl_nil)) (step _ rm i s hs)) ((u2.trans (u5.trans u6)).trans u3) F3 (by walk_at "put") (fun c4 h4 t4 u4 F4 => ?_) gf2
        exact s_nil ⟨c4, (acc (i + 1), some (.str [s])), h4, t4, rfl, F4, rfl⟩
      · rintro c3 ⟨v1, v2⟩ h3 t3 u3 hj F3
        dsimp only at hj F3 ⊢
        rw [List.length_map] at hj
        subst hj
        refine s_ret (ev_name (by walk_at "mem")) ((u2.trans (u5.trans u6)).trans u3) F3 fun c' v h' t' x F' dv => ?_
        exact k _ _ _ _ F'.ex dv
end
end Mine
namespace Mine
open PySem PySem.W PyProof.Rows
local macro_rules | `(tactic| walk_at "mem") => `(tactic| first | with_reducible exact List.mem_cons_self | (with_reducible refine List.mem_cons_of_mem _ ?_; walk_at "mem"))
local macro_rules | `(tactic| walk_at "memz") => `(tactic| ((simp only [List.map_cons, List.map_nil, List.zip_cons_cons, List.zip_nil_left, List.zip_nil_right, List.cons_append, List.nil_append]); walk_at "mem"))
local macro_rules | `(tactic| walk_at "put") => `(tactic| first | with_reducible exact PutP.head | (with_reducible apply PutP.tail; walk_at "put"))
local macro_rules | `(tactic| walk_at "args") => `(tactic| (refine args1 fun _ => ?_; intros; rfl))
local macro_rules | `(tactic| walk_at "args2") => `(tactic| (refine args2 fun _ _ => ?_; intros; rfl))
theorem any_nats (i : Nat) : ∀ P : List Nat, (P.map fun n : Nat => (n : Int)).any (· == (i : Int)) = decide (i ∈ P)
  | [] => by simp
  | a :: P => by
    rw [List.map_cons, List.any_cons, any_nats i P]
    by_cases h : i = a
    · subst h; simp
    · have : ((a : Int) == (i : Int)) = false := by simp; lia
      simp [this, h]
theorem cells_step {P : List Nat} (h : ∀ c ∈ P, 2 ≤ c) : ∀ i : Nat, 1 ≤ i → cellsL P i = (if i ∈ P then [34, 34] else [33]) ++ cellsL P (i - (if i ∈ P then 2 else 1))
  | 1, _ => by
    have : (1 : Nat) ∉ P := fun q => by have := h 1 q; lia
    simp [this, cellsL]
  | i + 2, _ => by
    rw [cellsL]
    split <;> simp
theorem fold_step : ∀ (l : List Nat) (a : Nat) (r : List Nat), ∃ a' r', l.foldl stepT (a :: r) = a' :: r' ∧ r'.length ≤ r.length + l.length
  | [], a, r => ⟨a, r, rfl, by simp⟩
  | s :: l, a, r => by
    rw [List.foldl_cons]
    have e : stepT (a :: r) s = (a + if s = 34 then 2 else 1) :: (r ++ if s = 34 then [a + 2] else []) := by simp [stepT]
    obtain ⟨a', r', e', h⟩ := fold_step l (a + if s = 34 then 2 else 1) (r ++ if s = 34 then [a + 2] else [])
    refine ⟨a', r', by rw [e]; exact e', ?_⟩
    rw [List.length_append] at h
    rw [List.length_cons]
    split at h <;> simp at h <;> lia
theorem marks_row (P : List Nat) : ∀ c, Row (marksL P c)
  | 0 => by intro s hs; simp [marksL] at hs
  | 1 => by intro s hs; simp [marksL] at hs; exact .inl hs
  | c + 2 => by
    intro s hs
    unfold marksL at hs
    split at hs
    · rcases List.mem_cons.mp hs with e | hs
      · exact .inr e
      · exact marks_row P c s hs
    · rcases List.mem_cons.mp hs with e | hs
      · exact .inl e
      · exact marks_row P (c + 1) s hs
section
variable {prog : Program} {w : World} {A : Around} {K : Heap} {nm bn : List (Str × Value)}
theorem cm_inN {i : Nat} {P : List Nat} : Cm2 prog w A .In (.int (i : Nat)) (.list (nats P)) (decide (i ∈ P)) := by
  rw [nats_int, ← any_nats]; exact cm_in
/-- replies, read and written -/
structure OQ (c : Heap) (nm bn : List (Str × Value)) (T M : Addr) : Prop where
  g : GQ c nm bn
  dt : IsDef c 130 (stm 19)
  gt : (("_law_step" : Str), Value.ref 130) ∈ nm
  da : IsDef c 137 (stm 20)
  ga : (("_law_read" : Str), Value.ref 137) ∈ nm
  dp : IsDef c 62 (stm 7)
  gp : (("parse257" : Str), Value.ref 62) ∈ nm
  dr : IsDefD (.ref T) c 30 (stm 3)
  gr : (("reduce" : Str), Value.ref 30) ∈ nm
  tM : ∃ oT n, c.get? T = some oT ∧ oT.data = .seq #[.ref M] n
  mM : ∃ oM, c.get? M = some oM ∧ oM.cls = .type "object"
  gm : (("_initial_missing" : Str), Value.ref M) ∈ nm
  dy : IsDef c 123 (stm 18)
  gy : (("_law_reply" : Str), Value.ref 123) ∈ nm
  dd : IsDef c 142 (stm 21)
  gd : (("_law_product" : Str), Value.ref 142) ∈ nm
  bi : (("iter" : Str), Value.builtin "iter") ∈ bn
  be : (("next" : Str), Value.builtin "next") ∈ bn
theorem OQ.up {c c' : Heap} {T M : Addr} (H : OQ c nm bn T M) (u : Up c c') : OQ c' nm bn T M where
  g := H.g.up u
  dt := H.dt.up u
  gt := H.gt
  da := H.da.up u
  ga := H.ga
  dp := H.dp.up u
  gp := H.gp
  dr := H.dr.up u
  gr := H.gr
  tM := let ⟨o, n, a, b⟩ := H.tM; ⟨o, n, u _ _ a, b⟩
  mM := let ⟨o, a, b⟩ := H.mM; ⟨o, u _ _ a, b⟩
  gm := H.gm
  dy := H.dy.up u
  gy := H.gy
  dd := H.dd.up u
  gd := H.gd
  bi := H.bi
  be := H.be
theorem ev_callD {e func : Expr} {args : List Expr} {env : Env} {ρ : Vars} {R : Led} {ps : List PV} {r : PV} {pos : Pos} {f : Addr} {dV : Value} {st : Stmt} (x1 : Ev prog w A K env ρ R func (.val (.ref f))) (D : IsDefD dV K f st) (x2 : EvL prog w A K env ρ R pos (e :: args) ps) (y : Cl prog w A K (.ref f) ps r)
    (he : starEach (e :: args) env = (false, eval e env) :: starEach args env := by rfl)
    (he' : eval (.Call func (e :: args) [] pos) env = (do callWith pos (← eval func env) [] (backTo pos (starEach (e :: args) env)) (backToKw pos (keywordEach [] env))) := by rfl) :
    Ev prog w A K env ρ R (.Call func (e :: args) [] pos) r := fun G _ _ u F _ _ _ _ _ _ k => by
  obtain ⟨ob, fd, h1, h2⟩ : ∃ ob fd, K.get? f = some ob ∧ ob.data = .func fd := by
    cases st with
    | FunctionDef n a b ds ret tp sc ts bd pos => obtain ⟨_, _, _, _, _, _, _, _, o, h1, h2, _⟩ := D; exact ⟨o, _, h1, h2⟩
    | _ => exact D.elim
  refine Call_ (x1.use u F fun c1 v1 h' t' y1 F1 d1 => ?_) he'
  simp only [Den] at d1; subst d1
  refine callWith_def h2 (x2 G _ _ (u.trans y1.cc) F1 _ _ _ _ _ _ fun c2 vs h'' t'' y2 F2 d2 => ⟨?_, ?_⟩) he
  · exact F2.up _ _ (y2.cc _ _ (y1.cc _ _ (u _ _ h1)))
  · exact y _ _ _ ((u.trans y1.cc).trans y2.cc) F2.up d2 _ _ _ _ _ _ fun _ _ _ _ y3 d3 => k _ _ _ _ (y1.trans (y2.trans y3)) d3
set_option pp.deepTerms false
set_option maxRecDepth 20000 in
theorem law_read_cl {T M : Addr} {P : List Nat} (N : OQ K nm bn T M) (GG : Glb K nm bn) (room : Rm A 3) (hz : maxN P < 1000) : Cl prog w A K (.ref 137) [.str (50 :: 53 :: 55 :: 32 :: 34 :: (textOf P ++ [34]))] (.list (nats (readM P))) := by
  refine cl_of ["reply"] [] N.da GG.lim room (by walk_at "args") rfl (by kernel_rfl) ?_
  intro env G c h g d t o Q gf e1 e2 e3 rm u F k
  simp only [List.map_cons, List.map_nil, List.zip_cons_cons, List.zip_nil_right, List.append_nil] at F
  have kk : GK env ["reduce", "_law_step", "parse257"] := .of e2 e3 (by rw [e1]; kernel_rfl)
  obtain ⟨oT, nT, hT, hT2⟩ := N.tM
  obtain ⟨oM, hM, cM⟩ := N.mM
  have ht : (textOf P ++ [34]).length < 100000 := by rw [List.length_append, textOf, (cells_len P _).1]; simp; lia
  have hlen : (parseL (textOf P ++ [34])).length < 100000 := Nat.lt_of_le_of_lt (parseL_le _) ht
  have hrow : Row (parseL (textOf P ++ [34])) := by rw [textOf, parse_cells]; exact marks_row _ _
  have hr : readM P = ((parseL (textOf P ++ [34])).reverse.foldl stepT [0]).drop 1 := by rw [textOf, parse_cells]; rfl
  have hpc : Cl prog w (A.deeper env) K (.ref 62) [.str (50 :: 53 :: 55 :: 32 :: 34 :: (textOf P ++ [34]))] (.str (parseL (textOf P ++ [34]))) := parse_cl N.dp GG N.g.f.bl (by lia) rm.le
  generalize parseL (textOf P ++ [34]) = m at hlen hrow hr hpc
  have hm : (tx m.reverse).cps.all (· < 128) = true := by
    simp only [tx, List.all_toArray, List.all_eq_true, decide_eq_true_eq]
    intro s hs
    rcases hrow s (List.mem_reverse.mp hs) with e | e <;> lia
  obtain ⟨a', r', ef, hf⟩ := fold_step m.reverse 0 []
  have hacc : ∀ i, (nats ((m.reverse.take i).foldl stepT [0])).length < 200000 := fun i => by
    obtain ⟨a', r', ef, hf⟩ := fold_step (m.reverse.take i) 0 []
    rw [ef, nats_len]
    rw [List.length_take, List.length_reverse] at hf
    simp at hf ⊢; lia
  refine s_ret (Ev.cast (p := .list (slc (nats ((m.reverse.take m.reverse.length).foldl stepT [0])) (some ((1 : Nat) : Int)) none)) ?_ (ev_lslice (ev_callD (r := .list (nats ((m.reverse.take m.reverse.length).foldl stepT [0]))) (ev_glob GG kk (by walk_at "mem") N.gr) N.dr
      (evl_cons (ev_glob GG kk (by walk_at "mem") N.gt) (evl_cons (ev_srev (ev_callF (ev_glob GG kk (by walk_at "mem") N.gp) N.dp (evl_cons (ev_name (by walk_at "mem")) evl_nil) hpc) (evo_some (ev_neg ev_int)) (by lia)) (evl_cons (ev_list (evl_cons ev_int evl_nil)) evl_nil)))
      (reduceT_cl (kk := 1) (fun i => .list (nats ((m.reverse.take i).foldl stepT [0]))) N.dr hT hT2 hM cM hm GG N.gm N.bi N.dt rm rfl (fun B rB i s hs => ?_))) (evo_some ev_int) evo_none (by have := hacc m.reverse.length; lia))) u F fun c' v h' t' x F' dv => k _ _ _ _ _ _ F' dv
  · rw [slc_from, List.take_length, hr]
    simp [nats]
  · obtain ⟨a, r, e, hr⟩ := fold_step (m.reverse.take i) 0 []
    have e2 : m.reverse.take (i + 1) = m.reverse.take i ++ [s] := by rw [List.take_add_one, hs]; rfl
    rw [e2, List.foldl_append, e]
    exact law_step_cl N.dt GG.lim rB (by rw [List.length_take, List.length_reverse] at hr; simp at hr; lia)
set_option pp.deepTerms false
set_option maxRecDepth 20000 in
set_option maxHeartbeats 1000000 in
theorem law_reply_cl {T M : Addr} {n : Nat} (N : OQ K nm bn T M) (GG : Glb K nm bn) (room : Rm A 3) (hn : n < fib 79) : Cl prog w A K (.ref 123) [.int (n : Nat)] (.str (replyL n)) := by
  refine cl_of ["number"] ["places", "cell", "text"] N.dy GG.lim room (by walk_at "args") rfl (by kernel_rfl) ?_
  intro env G c h g d t o Q gf e1 e2 e3 rm u F k
  simp only [List.map_cons, List.map_nil, List.zip_cons_cons, List.zip_nil_right, List.cons_append, List.nil_append] at F
  have kk : GK env ["_law_places", "max"] := .of e2 e3 (by rw [e1]; kernel_rfl)
  have hh := rm.hd
  obtain ⟨-, pz, pl⟩ := places_ok (n := n) (Nat.lt_of_lt_of_le hn (fib_mono (by lia)))
  have plen := places_len n
  unfold replyL textOf at k
  have hM := maxN_lt (l := places n) (n := 80) (fun c hc => by have := pl c hc; lia) (by lia)
  refine s_asg (p := .list (nats (places n))) (ev_callF (ev_glob GG kk (by walk_at "mem") N.g.gp) N.g.dp (evl_cons (ev_name (by walk_at "mem")) evl_nil) (law_places_clF N.g.dp N.g.f GG rm hn).cl) u F (by walk_at "put") fun c1 h1 t1 u1 F1 => ?_
  have GG1 := GG.up (u.trans u1)
  have N1 := N.up (u.trans u1)
  generalize places n = P at *
  have e0 : [PV.int 0] ++ nats P = ((0 :: P).map fun n : Nat => (n : Int)).map PV.int := by simp [nats]
  refine s_asg (p := .int (maxN P : Nat)) (ev_callB (ev_bi GG1 kk (by walk_at "mem") N1.g.f.bm) (evl_cons (Ev.cast (congrArg PV.list e0) (ev_bin (ev_list (evl_cons ev_int evl_nil)) (ev_name (by walk_at "mem")) (op_ladd (by rw [nats_len]; simp; lia)))) evl_nil) (cl_max (M := (maxN P : Nat)) hh (List.mem_map_of_mem (f := fun n : Nat => (n : Int)) (maxN_mem P)) (fun a ha => by
    obtain ⟨x, hx, rfl⟩ := List.mem_map.mp ha
    rcases List.mem_cons.mp hx with rfl | hx
    · lia
    · have := maxN_ge hx; lia))) (.refl c1) F1 (by walk_at "put") fun c2 h2 t2 u2 F2 => ?_
  refine s_asg (ev_str (l := []) (by kernel_rfl)) (.refl c2) F2 (by walk_at "put") fun c3 h3 t3 u3 F3 => ?_
  refine s_while (c := c3) (K := c3) (fun m c' h' => ∃ i acc, Fr G c' env [("number", some (.int (n : Nat))), ("places", some (.list (nats P))), ("cell", some (.int (i : Nat))), ("text", some (.str acc))] [] h' ∧ acc ++ cellsL P i = cellsL P (maxN P) ∧ i = m ∧ i ≤ 80)
    (fun c' h' => ∃ i, Fr G c' env [("number", some (.int (n : Nat))), ("places", some (.list (nats P))), ("cell", i), ("text", some (.str (cellsL P (maxN P))))] [] h') (maxN P) ⟨maxN P, [], F3, rfl, rfl, by lia⟩ (.refl c3) ?_ ?_
  · rintro m c4 h4 t4 u4 ⟨i, acc, F4, hacc, rfl, hi⟩
    refine wpAny_gen fun Qt hQt => ?_
    refine w_test (evb_cmp (ev_name (by walk_at "mem")) ev_int cm_gt) (.refl c4) F4 fun c5 h5 t5 u5 F5 => hQt _ _ ?_
    clear hQt Qt
    by_cases hb : 0 < i
    · rw [if_pos (by simpa using hb)]
      refine wpAny_gen fun Qb hQb => ?_
      have step := cells_step pz.2 i hb
      have alen : acc.length ≤ 80 := by
        have := congrArg List.length hacc
        simp only [List.length_append, (cells_len P i).1, (cells_len P (maxN P)).1] at this
        lia
      refine s_aug (q := .str (if i ∈ P then [34, 34] else [33])) (by walk_at "mem") (ev_if (b := decide (i ∈ P)) (evb_cmp (ev_name (by walk_at "mem")) (ev_name (by walk_at "mem")) cm_inN)
        (fun q => Ev.cast (by rw [if_pos (by simpa using q)]) (ev_str (l := [34, 34]) (by kernel_rfl))) (fun q => Ev.cast (by rw [if_neg (by simpa using q)]) (ev_str (l := [33]) (by kernel_rfl)))) (in_sadd (by split <;> simp <;> lia)) (.refl c5) F5 (by walk_at "put") fun c6 h6 t6 u6 F6 => ?_
      refine s_aug (q := .int ((if i ∈ P then 2 else 1 : Nat) : Int)) (by walk_at "mem") (ev_if (b := decide (i ∈ P)) (evb_cmp (ev_name (by walk_at "mem")) (ev_name (by walk_at "mem")) cm_inN)
        (fun q => Ev.cast (by rw [if_pos (by simpa using q)]; rfl) ev_int) (fun q => Ev.cast (by rw [if_neg (by simpa using q)]; rfl) ev_int)) in_sub (.refl c6) F6 (by walk_at "put") fun c7 h7 t7 u7 F7 => ?_
      have le : (if i ∈ P then 2 else 1) ≤ i := by
        split
        · rename_i q; exact pz.2 i q
        · lia
      have pos : 1 ≤ (if i ∈ P then 2 else 1) := by split <;> lia
      refine s_nil (hQb _ _ ⟨i - (if i ∈ P then 2 else 1), c7, h7, t7, by lia, (u5.trans u6).trans u7, ⟨i - (if i ∈ P then 2 else 1), acc ++ (if i ∈ P then [34, 34] else [33]), ?_, ?_, rfl, by lia⟩, rfl⟩)
      · have e2 : ((i - (if i ∈ P then 2 else 1) : Nat) : Int) = (i : Nat) - ((if i ∈ P then 2 else 1 : Nat) : Int) := by lia
        rw [e2]; exact F7
      · rw [List.append_assoc, ← step]; exact hacc
    · rw [if_neg (by simpa using hb)]
      have : i = 0 := by lia
      subst this
      have e : acc = cellsL P (maxN P) := by rw [← hacc]; simp [cellsL]
      exact ⟨c5, h5, t5, u5, ⟨_, e ▸ F5⟩, rfl⟩
  · rintro c4 h4 t4 u4 ⟨i, F4⟩
    have cl := (cells_len P (maxN P)).1
    refine s_ret (Ev.cast (p := .str (([50, 53, 55, 32, 34] ++ cellsL P (maxN P)) ++ [34])) rfl (ev_bin (ev_bin (ev_str (l := [50, 53, 55, 32, 34]) (by kernel_rfl)) (ev_name (by walk_at "mem")) (op_sadd (by rw [cl]; simp; lia))) (ev_str (l := [34]) (by kernel_rfl)) (op_sadd (by rw [List.length_append, cl]; simp; lia)))) (.refl c4) F4 fun c' v h' t' x F' dv => k _ _ _ _ _ _ F' dv
end
end Mine
namespace Mine
open PySem PySem.W PyProof.Rows
local macro_rules | `(tactic| walk_at "mem") => `(tactic| first | with_reducible exact List.mem_cons_self | (with_reducible refine List.mem_cons_of_mem _ ?_; walk_at "mem"))
local macro_rules | `(tactic| walk_at "memz") => `(tactic| ((simp only [List.map_cons, List.map_nil, List.zip_cons_cons, List.zip_nil_left, List.zip_nil_right, List.cons_append, List.nil_append]); walk_at "mem"))
local macro_rules | `(tactic| walk_at "put") => `(tactic| first | with_reducible exact PutP.head | (with_reducible apply PutP.tail; walk_at "put"))
local macro_rules | `(tactic| walk_at "args2") => `(tactic| (refine args2 fun _ _ => ?_; intros; rfl))
theorem conv_len (l m : List Nat) : (conv l m).length = l.length * m.length := by
  induction l with
  | nil => simp [conv]
  | cons a l ih => rw [conv_cons, List.length_append, List.length_map, ih, List.length_cons, Nat.succ_mul]; lia
theorem conv_lt {l m : List Nat} {k : Nat} (h1 : ∀ a ∈ l, a ≤ k) (h2 : ∀ b ∈ m, b ≤ k) : ∀ c ∈ conv l m, c ≤ 2 * k := fun c hc => by
  simp only [conv, List.mem_flatMap, List.mem_map] at hc
  obtain ⟨a, ha, b, hb, rfl⟩ := hc
  have := h1 a ha
  have := h2 b hb
  lia
/-- what the product asks of a number -/
theorem num_ok {n : Nat} (h : n < fib 79) : readM (places n) = (places n).reverse ∧ maxN (places n) < 1000 ∧ (∀ c ∈ (places n).reverse, c ≤ 79) ∧ (places n).reverse.length ≤ 78 := by
  obtain ⟨-, z, l⟩ := places_ok (n := n) (Nat.lt_of_lt_of_le h (fib_mono (by lia)))
  exact ⟨readM_is z, maxN_lt (fun c hc => by have := l c hc; lia) (by lia), fun c hc => l c (List.mem_reverse.mp hc), by rw [List.length_reverse]; exact places_len n⟩
section
variable {prog : Program} {w : World} {A : Around} {K : Heap} {nm bn : List (Str × Value)}
theorem read_of {T M : Addr} {n : Nat} (N : OQ K nm bn T M) (GG : Glb K nm bn) (room : Rm A 3) (hn : n < fib 79) : Cl prog w A K (.ref 137) [.str (replyL n)] (.list (nats (places n).reverse)) := by
  obtain ⟨e, l, -, -⟩ := num_ok hn
  rw [← e]
  exact law_read_cl N GG room l
set_option pp.deepTerms false
set_option maxRecDepth 20000 in
theorem law_product_cl {T M : Addr} {m n : Nat} (N : OQ K nm bn T M) (GG : Glb K nm bn) (room : Rm A 4) (hm : m < fib 79) (hn : n < fib 79) (hp : prodN m n < fib 79) : Cl prog w A K (.ref 142) [.str (replyL m), .str (replyL n)] (.str (replyL (prodN m n))) := by
  obtain ⟨-, -, m3, m4⟩ := num_ok hm
  obtain ⟨-, -, n3, n4⟩ := num_ok hn
  refine cl_of ["one", "other"] ["left", "right"] N.dd GG.lim room (by walk_at "args2") rfl (by kernel_rfl) ?_
  intro env G c h g d t o Q gf e1 e2 e3 rm u F k
  simp only [List.map_cons, List.map_nil, List.zip_cons_cons, List.zip_nil_right, List.cons_append, List.nil_append] at F
  have kk : GK env ["_law_read", "_law_reply", "_law_sum"] := .of e2 e3 (by rw [e1]; kernel_rfl)
  have hh := rm.hd
  have R1 := fun (B : Around) (K : Heap) (N : OQ K nm bn T M) GG (rB : Rm B 3) => read_of (prog := prog) (w := w) (A := B) (nm := nm) (bn := bn) (n := m) N GG rB hm
  have R2 := fun (B : Around) (K : Heap) (N : OQ K nm bn T M) GG (rB : Rm B 3) => read_of (prog := prog) (w := w) (A := B) (nm := nm) (bn := bn) (n := n) N GG rB hn
  have R3 := fun (B : Around) (K : Heap) (N : OQ K nm bn T M) GG (rB : Rm B 3) => law_reply_cl (prog := prog) (w := w) (A := B) (nm := nm) (bn := bn) (n := prodN m n) N GG rB hp
  clear hm hn hp
  unfold prodN at k R3
  generalize replyL m = r1 at *
  generalize replyL n = r2 at *
  generalize (places m).reverse = L at *
  generalize (places n).reverse = R at *
  have hl := conv_len L R
  have hl2 : L.length * R.length ≤ 78 * 78 := Nat.mul_le_mul m4 n4
  have hlt := conv_lt m3 n3
  have eo : nats (conv L R) = L.flatMap fun a => if (fun _ => true) a = true then (R.filter fun _ => true).map fun b => PV.int ((a + b : Nat) : Int) else [] := by
    simp only [PyProof.Rows.filter_true', if_true, nats, conv, List.map_flatMap, List.map_map, Function.comp_def]
  refine s_asg (ev_callF (ev_glob GG kk (by walk_at "mem") N.ga) N.da (evl_cons (ev_name (by walk_at "mem")) evl_nil) (R1 _ K N GG rm)) u F (by walk_at "put") fun c1 h1 t1 u1 F1 => ?_
  refine s_asg (ev_callF (ev_glob (GG.up (u.trans u1)) kk (by walk_at "mem") N.ga) (N.da.up (u.trans u1)) (evl_cons (ev_name (by walk_at "mem")) evl_nil) (R2 _ c1 (N.up (u.trans u1)) (GG.up (u.trans u1)) rm)) (.refl c1) F1 (by walk_at "put") fun c2 h2 t2 u2 F2 => ?_
  have u2' := (u.trans u1).trans u2
  have GG2 := GG.up u2'
  have N2 := N.up u2'
  refine s_ret (ev_callF (ev_glob GG2 kk (by walk_at "mem") N2.gy) N2.dy (evl_cons (ev_callF (ev_glob GG2 kk (by walk_at "mem") N2.g.gs) N2.g.ds (evl_cons (ev_comp2 (xs1 := ["a"]) (xs2 := ["b"]) (gs := []) (caps := [("right", some (.list (nats R)))]) (items := L) (fun a : Nat => [PV.int (a : Nat)]) (fun b : Nat => [PV.int (b : Nat)]) (fun _ => true) (fun _ => R) (fun _ _ => true) (fun a b => PV.int ((a + b : Nat) : Int)) (nats (conv L R)) eo
      (srcE_listT (fun n : Nat => PV.int (n : Nat)) hh (Ev.cast (p := .list (nats L)) rfl (ev_name (by walk_at "mem")))) e1 (by kernel_rfl) (by simp) (by rw [nats_len]; lia) (by simp) (by simp) (fun _ _ _ _ _ _ _ => evi_nil)
      (fun cenv ce a ha _ ops hops R' => srcE_listT (fun n : Nat => PV.int (n : Nat)) hh (Ev.cast (p := .list (nats R)) rfl (ev_name (by
        match ops, hops with
        | [_], _ => walk_at "memz"))))
      (fun _ _ _ _ _ _ _ _ => evi_nil) (fun cenv ce a ha _ b hb _ R' => Ev.cast (p := .int ((a : Nat) + (b : Nat) : Int)) (congrArg PV.int (by lia)) (ev_bin (ev_name (by walk_at "memz")) (ev_name (by walk_at "memz")) op_add))) evl_nil)
      (law_sum_cl N2.g.ds N2.g.f GG2 rm.le (fun x hx => by have := hlt x hx; lia) (by lia))) evl_nil) (R3 _ c2 N2 GG2 rm)) (.refl c2) F2 fun c' v h' t' x F' dv => k _ _ _ _ _ _ F' dv
end
end Mine
namespace Mine
open PySem PySem.W PyProof.Rows
local macro_rules | `(tactic| walk_at "mem") => `(tactic| first | with_reducible exact List.mem_cons_self | (with_reducible refine List.mem_cons_of_mem _ ?_; walk_at "mem"))
local macro_rules | `(tactic| walk_at "memz") => `(tactic| ((simp only [List.map_cons, List.map_nil, List.zip_cons_cons, List.zip_nil_left, List.zip_nil_right, List.cons_append, List.nil_append]); walk_at "mem"))
local macro_rules | `(tactic| walk_at "put") => `(tactic| first | with_reducible exact PutP.head | (with_reducible apply PutP.tail; walk_at "put"))
local macro_rules | `(tactic| walk_at "args") => `(tactic| (refine args1 fun _ => ?_; intros; rfl))
theorem wl_is : ∀ u : List Nat, ((List.range u.length).filter (fun i => decide ([u.getD i 0] = [34]))).map (fun i => u.length - 1 - i) = wl u
  | [] => rfl
  | a :: r => by
    have ih := wl_is r
    have e : ((List.range r.length).map Nat.succ).filter (fun i => decide ([(a :: r).getD i 0] = [34])) = ((List.range r.length).filter (fun i => decide ([r.getD i 0] = [34]))).map Nat.succ := by
      rw [List.filter_map]; rfl
    rw [List.length_cons, List.range_succ_eq_map, List.filter_cons, e]
    have e2 : (((List.range r.length).filter (fun i => decide ([r.getD i 0] = [34]))).map Nat.succ).map (fun i => r.length + 1 - 1 - i) = wl r := by
      rw [← ih, List.map_map]
      refine List.map_congr_left fun i _ => ?_
      simp only [Function.comp]; lia
    unfold wl
    by_cases h : a = 34
    · rw [if_pos (by simp [h]), if_pos h, List.map_cons, e2]; rfl
    · rw [if_neg (by simp [h]), if_neg h, e2]
theorem flat_one {α : Type} (f : α → Nat) : ∀ l : List α, (l.map fun i => [f i]).flatten = l.map f
  | [] => rfl
  | a :: l => by rw [List.map_cons, List.flatten_cons, flat_one f l]; rfl
theorem bit_at (n i : Nat) : ((((n : Int).fdiv ((2 : Int) ^ ((11 - i : Nat) : Int).toNat)).fmod 2) == 1) = decide (n / 2 ^ (11 - i) % 2 = 1) := by
  rw [Int.toNat_natCast]
  have e1 : (2 : Int) ^ (11 - i) = ((2 ^ (11 - i) : Nat) : Int) := by rw [Int.natCast_pow]; rfl
  have e2 : (n : Int).fdiv ((2 ^ (11 - i) : Nat) : Int) = ((n / 2 ^ (11 - i) : Nat) : Int) := by rw [Int.fdiv_eq_ediv_of_nonneg _ (Int.natCast_nonneg _)]; rfl
  rw [e1, e2, Int.fmod_eq_emod_of_nonneg _ (by decide)]
  generalize n / 2 ^ (11 - i) = q
  rw [Bool.eq_iff_iff, beq_iff_eq, decide_eq_true_eq]
  lia
section
variable {prog : Program} {w : World} {A : Around} {K : Heap} {nm bn : List (Str × Value)}
set_option pp.deepTerms false
set_option maxRecDepth 20000 in
set_option maxHeartbeats 1000000 in
theorem as_worth_cl {T M : Addr} {n : Nat} (N : OQ K nm bn T M) (D : IsDef K 169 (stm 26)) (GG : Glb K nm bn) (room : Rm A 4) : Cl prog w A K (.ref 169) [.int (n : Nat)] (.val (.bool true)) := by
  refine cl_of ["number"] ["text", "worth", "whole"] D GG.lim room (by walk_at "args") rfl (by kernel_rfl) ?_
  intro env G c h g d t o Q gf e1 e2 e3 rm u F k
  simp only [List.map_cons, List.map_nil, List.zip_cons_cons, List.zip_nil_right, List.cons_append, List.nil_append] at F
  have kk : GK env ["range", "_law_sum", "parse257", "_law_reply"] := .of e2 e3 (by rw [e1]; kernel_rfl)
  have hh := rm.hd
  have GGu := GG.up u
  have hok := worth_ok n
  have hlt := worth_lt (u := worthT n) (by simp [worthT])
  have ej : ((List.range 12).filter fun _ => true).map (fun i => PV.str [if n / 2 ^ (11 - i) % 2 = 1 then 34 else 33]) = ((List.range 12).map fun i => [if n / 2 ^ (11 - i) % 2 = 1 then 34 else 33]).map .str := by
    rw [PyProof.Rows.filter_true', List.map_map]; rfl
  have et : [34] ++ ((List.range 12).map fun i => [if n / 2 ^ (11 - i) % 2 = 1 then 34 else 33]).flatten = worthT n := by rw [flat_one]; rfl
  refine s_asg (p := .str (worthT n)) (Ev.cast (congrArg PV.str et) (ev_bin (ev_str (l := [34]) (by kernel_rfl)) (ev_meth (ev_str (l := []) (by kernel_rfl)) hp_join (evl_cons (Ev.cast (congrArg PV.list ej) (ev_comp1 (xs := ["k"]) (gs := []) (caps := [("number", some (.int (n : Nat)))]) (items := List.range 12) (fun i => [PV.int ((11 - i : Nat) : Int)]) (fun _ => true) (fun i => PV.str [if n / 2 ^ (11 - i) % 2 = 1 then 34 else 33])
      (srcE_rng3 (a := 11) (n := 12) (b := -1) hh (by lia) (by lia) (by lia) (ev_bi GGu kk (by walk_at "mem") N.g.f.br) ev_int (ev_neg ev_int) (ev_neg ev_int)) e1 (by kernel_rfl) (by simp) (by simp) (by simp) (fun _ _ _ _ _ => evi_nil)
      (fun cenv ce i hi _ R => ?_))) evl_nil) (cl_join (by rw [flat_one]; simp))) (op_sadd (by rw [flat_one]; simp)))) (.refl c) F (by walk_at "put") fun c1 h1 t1 u1 F1 => ?_
  · refine ev_if (b := decide (n / 2 ^ (11 - i) % 2 = 1)) (bit_at n i ▸ evb_cmp (ev_bin (ev_bin (ev_name (by walk_at "memz")) (ev_bin ev_int (ev_name (by walk_at "memz")) (op_pow (by lia) ?_)) (op_fdiv ?_ (PyProof.noPylong_small ?_))) ev_int (op_mod (by decide))) ev_int cm_eq)
      (fun q => Ev.cast (by rw [if_pos (by simpa using q)]) (ev_str (l := [34]) (by kernel_rfl))) (fun q => Ev.cast (by rw [if_neg (by simpa using q)]) (ev_str (l := [33]) (by kernel_rfl)))
    · have : Builtin.Int.intBits 2 = 2 := by decide
      rw [this]; lia
    · rw [Int.toNat_natCast]; exact Int.pow_ne_zero (by decide)
    · rw [Int.toNat_natCast, Int.natAbs_pow]
      exact Nat.lt_of_le_of_lt (Nat.pow_le_pow_right (by decide) (show 11 - i ≤ 11 by lia)) (by decide)
  · have hlen : (worthT n).length = 13 := by simp [worthT]
    have hwl := wl_is (worthT n)
    have hwlt := wl_lt (worthT n)
    have hwll := wl_len (worthT n)
    rw [hlen] at hwl hwlt hwll
    generalize worthT n = U at *
    have u1' := u.trans u1
    have GG1 := GG.up u1'
    have N1 := N.up u1'
    have ew : ((List.range 13).filter (fun i => decide ([U.getD i 0] = [34]))).map (fun i => PV.int ((13 - 1 - i : Nat) : Int)) = nats (wl U) := by rw [← hwl, nats, List.map_map]; rfl
    refine s_asg (p := .int (sX (wl U) : Nat)) (ev_callF (ev_glob GG1 kk (by walk_at "mem") N1.g.gs) N1.g.ds (evl_cons (Ev.cast (congrArg PV.list ew) (ev_comp1 (xs := ["k"]) (gs := []) (caps := [("text", some (.str U))]) (items := List.range 13) (fun i => [PV.int (i : Nat)]) (fun i => decide ([U.getD i 0] = [34])) (fun i => PV.int ((13 - 1 - i : Nat) : Int))
      (srcE_rng1 hh (by lia) (ev_bi GG1 kk (by walk_at "mem") N1.g.f.br) ev_int) e1 (by kernel_rfl) (by simp) (by simp) (by simp)
      (fun cenv ce i hi R => evi_one (evb_cmp (ev_sub (ev_name (by walk_at "memz")) (ev_name (by walk_at "memz")) (it_sitem (ch := U.getD i 0) ?_ (by lia))) (ev_str (l := [34]) (by kernel_rfl)) cm_seq))
      (fun cenv ce i hi _ R => Ev.cast (p := .int (12 - (i : Nat))) ?_ (ev_bin ev_int (ev_name (by walk_at "memz")) op_sub)))) evl_nil) (law_sum_cl N1.g.ds N1.g.f GG1 (rm.le) (fun x hx => by have := hwlt x hx; lia) (by lia))) (.refl c1) F1 (by walk_at "put") fun c2 h2 t2 u2 F2 => ?_
    · have := List.mem_range.mp hi
      rw [List.getD_eq_getElem?_getD, List.getElem?_eq_getElem (by lia)]; rfl
    · have := List.mem_range.mp hi
      exact congrArg PV.int (by lia)
    · have u2' := u1'.trans u2
      have GG2 := GG.up u2'
      have N2 := N.up u2'
      have hpl : (parseL (U ++ [120])).length ≤ 14 := Nat.le_trans (parseL_le _) (by rw [List.length_append, hlen]; exact Nat.le_refl _)
      refine s_asg (p := .val (.bool (decide ((parseL (U ++ [120])).drop ((parseL (U ++ [120])).length - 1) = [120])))) (ev_cmp (ev_slast (ev_callF (ev_glob GG2 kk (by walk_at "mem") N2.gp) N2.dp (evl_cons (Ev.cast (p := .str (([50, 53, 55, 32, 34] ++ U) ++ [120])) rfl (ev_bin (ev_bin (ev_str (l := [50, 53, 55, 32, 34]) (by kernel_rfl)) (ev_name (by walk_at "mem")) (op_sadd (by rw [hlen]; decide))) (ev_str (l := [120]) (by kernel_rfl)) (op_sadd (by rw [List.length_append, hlen]; decide)))) evl_nil)
        (parse_cl (m := U ++ [120]) N2.dp GG2 N2.g.f.bl (by rw [List.length_append, hlen]; decide) rm.le)) (evo_some (ev_neg ev_int)) (by lia)) (ev_str (l := [120]) (by kernel_rfl)) cm_seq) (.refl c2) F2 (by walk_at "put") fun c3 h3 t3 u3 F3 => ?_
      have u3' := u2'.trans u3
      have GG3 := GG.up u3'
      have N3 := N.up u3'
      refine s_ret (ev_cmp (ev_name (by walk_at "mem")) (ev_cmp (ev_callF (ev_glob GG3 kk (by walk_at "mem") N3.gy) N3.dy (evl_cons (ev_name (by walk_at "mem")) evl_nil) (law_reply_cl N3 GG3 rm.le (Nat.lt_of_lt_of_le hlt (fib_mono (by lia)))))
        (Ev.cast (p := .str (([50, 53, 55, 32, 34] ++ U) ++ [34])) (q := .str (50 :: 53 :: 55 :: 32 :: 34 :: (U ++ [34]))) rfl (ev_bin (ev_bin (ev_str (l := [50, 53, 55, 32, 34]) (by kernel_rfl)) (ev_name (by walk_at "mem")) (op_sadd (by rw [hlen]; decide))) (ev_str (l := [34]) (by kernel_rfl)) (op_sadd (by rw [List.length_append, hlen]; decide)))) cm_seq) cm_beq) (.refl c3) F3 fun c' v h' t' x F' dv => k _ _ _ _ _ _ F' ?_
      rw [hok] at dv
      simpa using dv
end
end Mine
namespace Mine
open PySem PySem.W PyProof.Rows
local macro_rules | `(tactic| walk_at "mem") => `(tactic| first | with_reducible exact List.mem_cons_self | (with_reducible refine List.mem_cons_of_mem _ ?_; walk_at "mem"))
local macro_rules | `(tactic| walk_at "put") => `(tactic| first | with_reducible exact PutP.head | (with_reducible apply PutP.tail; walk_at "put"))
local macro_rules | `(tactic| walk_at "rep") => `(tactic| first | with_reducible exact RepP.head | (with_reducible apply RepP.tail; walk_at "rep"))
local macro_rules | `(tactic| walk_at "froz") => `(tactic| first | with_reducible exact Froz.nil | (with_reducible apply Froz.lst; focus (walk_at "mem"); walk_at "froz") | (with_reducible apply Froz.same; walk_at "froz"))
section
variable {prog : Program} {w : World} {A : Around} {K c c' h h' : Heap} {G : Org} {env cenv : Env} {ρ ρ' : Vars} {R R' : Led} {g : Array GenState} {d : Drawn} {t : Nat} {o : OsState} {nm bn : List (Str × Value)}
/-- heapq's facts -/
structure HQ (c : Heap) (nm bn : List (Str × Value)) : Prop where
  push : IsDef c 69 (stm 9)
  pop : IsDef c 76 (stm 10)
  ify : IsDef c 83 (stm 11)
  sd : IsDef c 90 (stm 12)
  su : IsDef c 97 (stm 13)
  gsd : (("_siftdown" : Str), Value.ref 90) ∈ nm
  gsu : (("_siftup" : Str), Value.ref 97) ∈ nm
  gl : (("len" : Str), Value.builtin "len") ∈ bn
  gr : (("range" : Str), Value.type "range") ∈ bn
  gv : (("reversed" : Str), Value.type "reversed") ∈ bn
theorem HQ.up (H : HQ c nm bn) (u : Up c c') : HQ c' nm bn := ⟨H.push.up u, H.pop.up u, H.ify.up u, H.sd.up u, H.su.up u, H.gsd, H.gsu, H.gl, H.gr, H.gv⟩
theorem Fr.vals {a : Addr} {xs : List Value} (F : Fr G c env ρ R h) (m : (a, xs.map PV.val) ∈ R) : h.PlainList a xs.toArray := by
  obtain ⟨vs, hl, dl⟩ := F.lst m
  rw [← dl.vals]; exact hl
theorem fr_pop {n : Nat} {El : Value → Prop} {lt : Value → Value → Bool} {a : Addr} {xs : List Value} {last : Value} {Q E : Value → Shared → Prop} (H : HQ c nm bn) (GG : Glb c nm bn) (O : Ord prog w n c El lt) (F : Fr G c env ρ R h) (m : (a, (xs ++ [last]).map PV.val) ∈ R)
    (U : RepP a ((hpopL lt xs last).map PV.val) R R') (hEl : ∀ v ∈ xs ++ [last], El v) (hsz : xs.length < 1000) (room : Rm A (n + 3)) (k : ∀ h' t', Fr G c env ρ R' h' → Q (hpopV xs last) ⟨h', g, d, t', o⟩) :
    wpAny (model prog w) A (call (.ref 76) [.ref a]) Q E ⟨h, g, d, t, o⟩ :=
  heappop_spec H.pop H.sd H.su GG H.gsd H.gsu H.gl O F.up (F.nolst m) (F.vals m) hEl hsz room fun h' t' ub pl => k h' t' (F.upd U ub pl DenL.ofVals)
theorem fr_push {n : Nat} {El : Value → Prop} {lt : Value → Value → Bool} {a : Addr} {xs : List Value} {v : Value} {Q E : Value → Shared → Prop} (H : HQ c nm bn) (GG : Glb c nm bn) (O : Ord prog w n c El lt) (F : Fr G c env ρ R h) (m : (a, xs.map PV.val) ∈ R)
    (U : RepP a ((hpush lt xs v).map PV.val) R R') (hEl : ∀ v ∈ xs, El v) (hv : El v) (hsz : xs.length < 1000) (room : Rm A (n + 2)) (k : ∀ h' t', Fr G c env ρ R' h' → Q .none ⟨h', g, d, t', o⟩) :
    wpAny (model prog w) A (call (.ref 69) [.ref a, v]) Q E ⟨h, g, d, t, o⟩ :=
  heappush_spec H.push H.sd GG H.gsd H.gl O F.up (F.nolst m) (F.vals m) hEl hv hsz room fun h' t' ub pl => k h' t' (F.upd U ub pl DenL.ofVals)
theorem fr_ify {n : Nat} {El : Value → Prop} {lt : Value → Value → Bool} {a : Addr} {xs : List Value} {Q E : Value → Shared → Prop} (H : HQ c nm bn) (GG : Glb c nm bn) (O : Ord prog w n c El lt) (F : Fr G c env ρ R h) (m : (a, xs.map PV.val) ∈ R)
    (U : RepP a ((hify lt xs).map PV.val) R R') (hEl : ∀ v ∈ xs, El v) (hsz : xs.length < 1000) (room : Rm A (n + 3)) (k : ∀ h' t', Fr G c env ρ R' h' → Q .none ⟨h', g, d, t', o⟩) :
    wpAny (model prog w) A (call (.ref 83) [.ref a]) Q E ⟨h, g, d, t, o⟩ :=
  heapify_spec H.ify H.sd H.su GG H.gsd H.gsu H.gl H.gr H.gv O F.up (F.nolst m) (F.vals m) hEl hsz room fun h' t' ub pl => k h' t' (F.upd U ub pl DenL.ofVals)
/-- a call by a global name, its arguments to be read next -/
theorem r_fn {f : Addr} {st : Stmt} {gs : List Str} {x : Str} {e : Expr} {es : List Expr} {px pos : Pos} {Q E : Value → Shared → Prop} (GG : Glb K nm bn) (kk : GK env gs) (hx : x ∈ gs) (hv : (x, Value.ref f) ∈ nm) (D : IsDef K f st) (u : Up K c) (F : Fr G c env ρ R h)
    (k : wpAny (model prog w) A (spliced (backTo pos (starEach (e :: es) env))) (fun vs s₁ => Up K s₁.heap ∧ wpAny (model prog w) A (call (.ref f) vs) Q E s₁) E ⟨h, g, d, t, o⟩)
    (he : starEach (e :: es) env = (false, eval e env) :: starEach es env := by rfl)
    (he' : eval (.Call (.Name x px) (e :: es) [] pos) env = (do callWith pos (← eval (.Name x px) env) [] (backTo pos (starEach (e :: es) env)) (backToKw pos (keywordEach [] env))) := by rfl) :
    wpAny (model prog w) A (eval (.Call (.Name x px) (e :: es) [] pos) env) Q E ⟨h, g, d, t, o⟩ := by
  obtain ⟨ob, fd, h1, h2⟩ := D.fn
  obtain ⟨mg, mb, hg, _, hn, _⟩ := GG.ex
  refine Call_ (Calls.Name_function_global F.fn (kk.k x hx).1 (Calls.loadGlobal_global (by rw [kk.g]; exact hg.keeps (u.trans F.up)) (hn _ hv) ?_) (kk.k x hx).2) he'
  exact callWith_def h2 (wpAny_mono k (fun vs s₁ q => ⟨q.1 _ _ h1, q.2⟩) fun _ _ q => q) he
/-- own is one -/
theorem evb_is {a X Y : Addr} {l1 l2 : List Nat} {e1 e2 : Expr} {pos : Pos} (x1 : Ev prog w A K env ρ R e1 (.val (.ref X))) (x2 : Ev prog w A K env ρ R e2 (.val (.ref Y))) (k1 : KeyAt K a X l1) (k2 : KeyAt K a Y l2) (hm : behindInMarks .Is e2 = false := by with_unfolding_all rfl) :
    EvB prog w A K env ρ R (.Compare e1 [.Is] [e2] pos) (decide (X = Y)) := fun _ _ _ u F _ _ _ _ _ _ k =>
  wpAny_isTrue_Compare1 (x1.use u F fun c1 v1 h1 _ y1 F1 d1 => x2.use (u.trans y1.cc) F1 fun c2 v2 h2 _ y2 F2 d2 => by
    simp only [Den] at d1 d2
    subst d1 d2
    by_cases e : X = Y
    · subst e
      exact wpAny_is_ref_self (wpAny_truthy_bool (by rw [show decide (X = X) = true by simp] at k; exact k _ _ _ (y1.trans y2)))
    · obtain ⟨D1, s1, e1⟩ := k1
      obtain ⟨D2, s2, e2⟩ := k2
      have uu := (u.trans (y1.trans y2).cc).trans F2.up
      exact wpAny_is_ref_other e (uu _ _ e1) (uu _ _ e2) (by simp [keyO]) (wpAny_truthy_bool (by rw [show decide (X = Y) = false by simp [e]] at k; exact k _ _ _ (y1.trans y2)))) hm
end
end Mine
namespace Mine
open PySem PySem.W PyProof.Rows
theorem perm_map {α β : Type} (f : α → β) {l m : List β} (p : l.Perm m) : ∀ hx : List α, m = hx.map f → ∃ l' : List α, l'.Perm hx ∧ l = l'.map f := by
  induction p with
  | nil => intro hx e; cases hx with | nil => exact ⟨[], .refl _, rfl⟩ | cons => simp at e
  | cons x p ih =>
    intro hx e
    cases hx with
    | nil => simp at e
    | cons a hx =>
      rw [List.map_cons] at e
      obtain ⟨e1, e2⟩ := List.cons.inj e
      obtain ⟨l', q, e3⟩ := ih hx e2
      exact ⟨a :: l', q.cons a, by rw [List.map_cons, ← e1, ← e3]⟩
  | swap x y l =>
    intro hx e
    match hx, e with
    | [], e => simp at e
    | [_], e => simp at e
    | a :: b :: hx, e =>
      simp only [List.map_cons, List.cons.injEq] at e
      obtain ⟨e1, e2, e3⟩ := e
      exact ⟨b :: a :: hx, .swap a b hx, by simp [e1, e2, e3]⟩
  | trans p q ih1 ih2 =>
    intro hx e
    obtain ⟨l', q', e'⟩ := ih2 hx e
    obtain ⟨l'', q'', e''⟩ := ih1 l' e'
    exact ⟨l'', q''.trans q', e''⟩
theorem Hp_congr {lt lt' : Value → Value → Bool} {xs : List Value} (h : ∀ x ∈ xs, ∀ y ∈ xs, lt x y = lt' x y) {p : Nat} (H : HL.Hp lt p xs) : HL.Hp lt' p xs := fun i i0 il ip => by
  have e1 : HL.vt xs i ∈ xs := by rw [HL.vt_get il]; exact List.getElem_mem il
  have il2 : (i - 1) / 2 < xs.length := by lia
  have e2 : HL.vt xs ((i - 1) / 2) ∈ xs := by rw [HL.vt_get il2]; exact List.getElem_mem il2
  rw [← h _ e1 _ e2]; exact H i i0 il ip
theorem zip_filter : ∀ {ks : List Addr} {ls : List (List Nat)}, ks.length = ls.length → ks.Nodup → ∀ {i : Nat} {X : Addr} {l : List Nat}, ks[i]? = some X → ls[i]? = some l → (ks.zip ls).filter (fun b => decide (b.1 = X)) = [(X, l)]
  | [], [], _, _, i, X, l, e, _ => by simp at e
  | k :: ks, m :: ls, hl, nd, i, X, l, e1, e2 => by
    rw [List.nodup_cons] at nd
    rw [List.zip_cons_cons, List.filter_cons]
    cases i with
    | zero =>
      simp at e1 e2
      subst e1 e2
      rw [if_pos (by simp)]
      congr 1
      rw [List.filter_eq_nil_iff]
      intro b hb
      simp only [decide_eq_true_eq]
      intro e
      exact nd.1 (e ▸ (List.of_mem_zip hb).1)
    | succ i =>
      simp at e1 e2
      have : k ≠ X := fun e => nd.1 (e ▸ List.mem_of_getElem? e1)
      rw [if_neg (by simpa using this)]
      exact zip_filter (by simpa using hl) nd.2 e1 e2
  | [], _ :: _, h, _, _, _, _, _, _ => by simp at h
  | _ :: _, [], h, _, _, _, _, _, _ => by simp at h
section
variable {G : Org} {pl : Str → Pl} {c c' h h' : Heap} {env : Env} {ρ : Vars} {R : Led}
theorem Fr.extX {z : Addr} (F : Fr G c env ρ R h) (x : Ext [z] c h c' h') (hz : ∃ ob vs, h.get? z = some ob ∧ ob.data = .fields vs) : Fr ⟨G.c, G.h, z :: G.X, G.fn⟩ c' env ρ R h' := by
  obtain ⟨pl, F⟩ := F
  obtain ⟨ob, fs, ho, hf⟩ := hz
  have kp : ∀ b o, b ≠ z → h.get? b = some o → h'.get? b = some o := fun b o n e => x.hh b o (by simpa using n) e
  exact ⟨pl, {
    ex := (F.ex.mono fun a ha => .inl (.tail _ ha)).trans (x.mono fun a ha => .inl (by rw [List.mem_singleton.mp ha]; exact .head _))
    fn := F.fn
    ns := by
      obtain ⟨m, hn⟩ := F.ns
      refine ⟨m, hn.at' fun o e => kp _ o (fun q => ?_) e⟩
      obtain ⟨o', es, ep, h1, h2, _⟩ := hn
      rw [q, ho] at h1; cases h1; rw [hf] at h2; cases h2
    vars := fun q hq => by
      refine ⟨(F.vars q hq).1, ?_⟩
      have := (F.vars q hq).2
      have nc : ∀ {b ov}, h.IsCell b ov → b ≠ z := fun {b ov} hc q => by
        obtain ⟨o', h1, h2⟩ := hc
        rw [q, ho] at h1; cases h1; rw [hf] at h2; cases h2
      revert this
      cases e : pl q.1 with
      | loc =>
        rintro ⟨k, m, hn, hv⟩
        refine ⟨k, m, hn.at' fun o e => kp _ o (fun q => ?_) e, fun p e => let ⟨v, a, b⟩ := hv p e; ⟨v, a, Den.up x.cc _ b⟩⟩
        obtain ⟨o', es, ep, h1, h2, _⟩ := hn
        rw [q, ho] at h1; cases h1; rw [hf] at h2; cases h2
      | own a => rintro ⟨k, l, ov, hc, hv⟩; exact ⟨k, l, ov, let ⟨o', h1, h2⟩ := hc; ⟨o', kp _ _ (nc hc) h1, h2⟩, fun p e => let ⟨v, a, b⟩ := hv p e; ⟨v, a, Den.up x.cc _ b⟩⟩
      | fro a => rintro ⟨k, l, n, v, p, hc, e, d⟩; exact ⟨k, l, n, v, p, let ⟨o', h1, h2⟩ := hc; ⟨o', kp _ _ (nc hc) h1, h2⟩, e, Den.up x.cc _ d⟩
    kn := F.kn
    rl := fun q hq => by
      obtain ⟨xs, hl, d⟩ := F.rl q hq
      refine ⟨xs, hl.at fun o e => kp _ o (fun q' => ?_) e, DenL.up x.cc _ d⟩
      obtain ⟨n, h1⟩ := hl
      rw [q', ho] at h1; cases h1; cases hf
    n1 := F.n1
    n2 := F.n2
    n3 := F.n3
    n4 := F.n4
    nc := fun a o => by
      obtain ⟨ob, ho⟩ := F.live o
      cases e : c'.get? a with
      | none => rfl
      | some o' =>
        rcases x.nw a o' e with q | q
        · rw [F.nc a o] at q; cases q
        · rw [ho] at q; cases q
    xo := fun a o => by
      rcases F.xo a o with q | q
      · exact .inl (.tail _ q)
      · exact .inr q
    nf := F.nf
    cv := fun y a e => let ⟨ob, e'⟩ := F.cv y a e; x.lv a ob e' }⟩
/-- a stretch told from its own start; z, no object of the frame's, stands meanwhile -/
theorem Fr.rebaseX {z : Addr} {ob : Obj} {fs : Array Value} (F : Fr G c env ρ R h) (hz : h.get? z = some ob) (hf : ob.data = .fields fs) : ∃ G', G'.fn = G.fn ∧ Fr G' c env ρ R h ∧
    (∀ c' ρ' R' h', Fr G' c' env ρ' R' h' → Fr G c' env ρ' R' h' ∧ Up c c' ∧ h'.get? z = some ob) := by
  obtain ⟨pl, F⟩ := F
  have nl : ∀ a o, G.h.get? a = some o → h.get? a ≠ none := fun a o e q => by obtain ⟨o', e'⟩ := F.ex.lv a o e; rw [q] at e'; cases e'
  have nz : z ∉ ownL pl env ρ R := fun q => by
    rcases ownL_iff.mp q with e | ⟨r, hr, e⟩ | e
    · obtain ⟨m, o', es, ep, h1, h2, _⟩ := F.ns
      rw [← e, hz] at h1; cases h1; rw [hf] at h2; cases h2
    · have := (F.vars r hr).2
      rw [e] at this
      obtain ⟨_, _, ov, ⟨o', h1, h2⟩, _⟩ := this
      rw [hz] at h1; cases h1; rw [hf] at h2; cases h2
    · obtain ⟨r, hr, rfl⟩ := List.mem_map.mp e
      obtain ⟨xs, ⟨n, h1⟩, _⟩ := F.rl r hr
      rw [hz] at h1; cases h1; cases hf
  refine ⟨⟨c, h, ownL pl env ρ R, G.fn⟩, rfl, ⟨pl, { F with ex := .refl F.ex.ch, xo := fun a o => .inl (ownL_iff.mpr o) }⟩, ?_⟩
  rintro c' ρ' R' h' ⟨pl', F'⟩
  have key : ∀ a, a ∈ ownL pl env ρ R ∨ h.get? a = none → a ∈ G.X ∨ G.h.get? a = none := fun a q => by
    rcases q with q | q
    · exact F.xo a (ownL_iff.mp q)
    · right
      cases e : G.h.get? a with
      | none => rfl
      | some o => exact absurd q (nl a o e)
  exact ⟨⟨pl', { F' with ex := F.ex.trans' F'.ex (fun a q => key a (.inl q)), xo := fun a o => key a (F'.xo a o) }⟩, F'.ex.cc, F'.ex.hh z ob nz hz⟩
end
section
variable {prog : Program} {w : World} {A : Around} {K c c' h h' : Heap} {G : Org} {env cenv : Env} {ρ ρ' : Vars} {R R' : Led} {g : Array GenState} {d : Drawn} {t : Nat} {o : OsState} {nm bn : List (Str × Value)}
theorem s_exprR {e : Expr} {pos : Pos} {rest : List Stmt} {Q : Flow → Shared → Prop} {E : Value → Shared → Prop} (F : Fr G c env ρ R h) (k : wpAny (model prog w) A (eval e env) (fun v s' => v = .none ∧ wpAny (model prog w) A (execs rest env) Q E s') E ⟨h, g, d, t, o⟩)
    (hs : swapsWith e none pos.line env = pure false := by rfl) : wpAny (model prog w) A (execs (.Expr e pos :: rest) env) Q E ⟨h, g, d, t, o⟩ :=
  wpAny_execs_cons (wpAny_Expr (wpAny_mono (Q := fun v s' => v = .none ∧ wpAny (model prog w) A (execs rest env) Q E s') k (fun v s' q => by obtain ⟨rfl, q⟩ := q; exact q) fun _ _ q => q) (by unfold interactive; rw [F.fn]; rfl) hs)
theorem Ext.no {X : List Addr} {a : Addr} {ob : Obj} (x : Ext X c h c' h') (n : c.get? a = none) (l : h.get? a = some ob) : c'.get? a = none := by
  cases e : c'.get? a with
  | none => rfl
  | some o' =>
    rcases x.nw a o' e with q | q
    · rw [n] at q; cases q
    · rw [l] at q; cases q
theorem snoc_of {α : Type} : ∀ {l : List α}, 1 ≤ l.length → ∃ xs a, l = xs ++ [a]
  | [], h => by simp at h
  | [a], _ => ⟨[], a, rfl⟩
  | a :: b :: l, _ => by
    obtain ⟨xs, x, e⟩ := snoc_of (l := b :: l) (by simp)
    exact ⟨a :: xs, x, by rw [e]; rfl⟩
end
end Mine
namespace Mine
open PySem PySem.W PyProof.Rows
local macro_rules | `(tactic| walk_at "mem") => `(tactic| first | with_reducible exact List.mem_cons_self | (with_reducible refine List.mem_cons_of_mem _ ?_; walk_at "mem"))
local macro_rules | `(tactic| walk_at "memz") => `(tactic| ((simp only [List.map_cons, List.map_nil, List.zip_cons_cons, List.zip_nil_left, List.zip_nil_right, List.cons_append, List.nil_append]); walk_at "mem"))
local macro_rules | `(tactic| walk_at "put") => `(tactic| first | with_reducible exact PutP.head | (with_reducible apply PutP.tail; walk_at "put"))
local macro_rules | `(tactic| walk_at "rep") => `(tactic| first | with_reducible exact RepP.head | (with_reducible apply RepP.tail; walk_at "rep"))
section
variable {prog : Program} {w : World} {A : Around} {K c c' h h' : Heap} {G : Org} {pl : Str → Pl} {env cenv : Env} {ρ ρ' : Vars} {R R' : Led} {g : Array GenState} {d : Drawn} {t : Nat} {o : OsState} {nm bn : List (Str × Value)}
theorem evf_comp1 {α : Type} {sc scope : Scope} {caps : Vars} {xs gs : List Str} {elt iter target : Expr} {ifs : List Expr} {pos : Pos} {items : List α} (enc : α → List PV) (keep : α → Bool) (f : α → PV)
    (src : SrcE prog w A K env ρ R iter target xs (items.map enc)) (hsc : env.scope = sc) (ok : compOk sc scope xs (caps.map (·.1)) gs = true) (hcap : ∀ q ∈ caps, q ∈ ρ ∧ q.2.isSome = true)
    (hz : items.length < 1000000) (hlen : ∀ a ∈ items, (enc a).length = xs.length)
    (tests : ∀ cenv, CEnv env cenv gs xs → ∀ a ∈ items, ∀ R, EvI prog w A K cenv (xs.zip ((enc a).map some) ++ caps) R ifs (keep a))
    (el : ∀ cenv, CEnv env cenv gs xs → ∀ a ∈ items, keep a = true → ∀ R, Ev prog w A K cenv (xs.zip ((enc a).map some) ++ caps) R elt (f a))
    (hs : ∀ x, foldedSetIterable iter env x = pure x := by intro _; rfl) :
    EvF prog w A K env ρ R (.ListComp elt [⟨target, iter, ifs, 0⟩] scope pos) ((items.filter keep).map f) := fun G c h u F g d t o Q E k => by
  refine comp_val (fun _ ys => ys = (items.filter keep).map f) (fun _ _ _ _ e => e) u F hsc ok hcap ⟨[], rfl⟩ src (fun cenv D c1 h2 t2 I fp wr Si RR ce uc S hs F2 off kk => ?_) (fun c' D ys h' t' x nD dv e => by subst e; exact k c' _ h' t' x nD dv) hs
  exact loop1 (P := fun _ ys => ys = (items.filter keep).map f) enc keep f hz hlen (tests cenv ce) (el cenv ce) ce.l (u.trans uc) S hs F2 off (fun _ => rfl) kk
theorem s_retF {e : Expr} {ps qs : List PV} {pos : Pos} {rest : List Stmt} {Q : Flow → Shared → Prop} {E : Value → Shared → Prop} (he : ps = qs) (x1 : EvF prog w A K env ρ R e ps) (u : Up K c) (F : Fr G c env ρ R h) (k : ∀ c' D h' t', Ext [] c h c' h' → h.get? D = none → Fr G c' env ρ R h' → Den c' (.ref D) (.list qs) → Q (.ret (.ref D)) ⟨h', g, d, t', o⟩) :
    wpAny (model prog w) A (execs (.Return (some e) pos :: rest) env) Q E ⟨h, g, d, t, o⟩ :=
  wpAny_execs_cons (wpAny_Return_some (x1 G c h u F _ _ _ _ _ _ fun c' D h' t' y nD dv => k c' D h' t' y nD (F.ext y) (he ▸ dv)))
set_option pp.deepTerms false
set_option maxRecDepth 20000 in
set_option maxHeartbeats 1000000 in
theorem popped_spec {n : Nat} {El : Value → Prop} {lt : Value → Value → Bool} {a ah X : Addr} {i : Nat} {l : List Nat} {xs : List Value} {last vk vr : Value} {ks : List Addr} {ls : List (List Nat)} {Q E : Value → Shared → Prop} (H : HQ c nm bn) (D : IsDef c 154 (stm 23)) (GG : Glb c nm bn)
    (gp : (("heappop" : Str), Value.ref 76) ∈ nm) (bz : (("zip" : Str), Value.type "zip") ∈ bn) (O : Ord prog w n c El lt) (u : Up c h) (na : c.get? ah = none) (hp : h.PlainList ah (xs ++ [last]).toArray) (hEl : ∀ v ∈ xs ++ [last], El v) (hsz : xs.length < 1000) (room : Rm A (n + 4))
    (dk : Den c vk (.list (ks.map fun X => .val (.ref X)))) (dr : Den c vr (.list (ls.map .str))) (kx : KeysOf c a ks ls) (hz : ks.length < 1000) (hX : hpopV xs last = .ref X) (i1 : ks[i]? = some X) (i2 : ls[i]? = some l)
    (k : ∀ c' D h' t', Ext [ah] c h c' h' → h.get? D = none → Den c' (.ref D) (.list [.str l]) → h'.PlainList ah (hpopL lt xs last).toArray → Q (.ref D) ⟨h', g, d, t', o⟩) :
    wpAny (model prog w) A (call (.ref 154) [.ref ah, vk, vr]) Q E ⟨h, g, d, t, o⟩ := by
  refine enterP (ps := [.val (.ref ah), .list (ks.map fun X => .val (.ref X)), .list (ls.map .str)]) ["heap", "keys", "replies"] ["least"] [(ah, (xs ++ [last]).map .val)] D u GG.lim room (by simp only [DenL]; exact ⟨by simp [Den], dk, dr, trivial⟩) (fun q hq => by rw [List.mem_singleton.mp hq]; exact ⟨na, _, hp, DenL.ofVals⟩) (by simp) (fun _ _ _ _ _ _ _ _ => rfl) rfl (by kernel_rfl) fun env h₁ t₁ e1 e2 e3 rm F => ?_
  simp only [List.map_cons, List.map_nil, List.zip_cons_cons, List.zip_nil_right, List.cons_append, List.nil_append] at F
  have kk : GK env ["heappop", "zip"] := .of e2 e3 (by rw [e1]; kernel_rfl)
  have hh := rm.hd
  generalize A.deeper env = B at rm hh ⊢
  refine wpAny_execs_cons (wpAny_Assign_Name (r_fn GG kk (by walk_at "mem") gp H.pop (.refl _) F (args_cons (F.ld (x := "heap") (by walk_at "mem") fun v dv => args_nil ⟨F.up, ?_⟩))))
  simp only [Den] at dv
  subst dv
  refine fr_pop (n := n) (lt := lt) (El := El) H GG O F (by walk_at "mem") (by walk_at "rep") hEl hsz rm fun h2 t2 F2 => ?_
  rw [hX]
  refine F2.stn (x := "least") (p := .val (.ref X)) (by walk_at "put") (by simp [Den]) (.inl rfl) fun h3 t3 F3 => ?_
  refine (show wpAny (model prog w) B (execs _ env) _ _ _ from ?_)
  have zl : (ks.map fun X => PV.val (.ref X)).length = (ls.map PV.str).length := by simp [kx.1]
  have ez : ((ks.map fun X => PV.val (.ref X)).zip (ls.map PV.str)).map (fun r => [r.1, r.2]) = (ks.zip ls).map (fun b => [PV.val (.ref b.1), PV.str b.2]) := by
    rw [List.zip_map, List.map_map]; rfl
  have ef : ((ks.zip ls).filter fun b => decide (b.1 = X)).map (fun b => PV.str b.2) = [PV.str l] := by rw [zip_filter kx.1 kx.2.1 i1 i2]; rfl
  obtain ⟨lX, kX⟩ := kx.alive (List.mem_of_getElem? i1)
  refine s_retF ef (evf_comp1 (xs := ["key", "reply"]) (gs := []) (caps := [("least", some (.val (.ref X)))]) (items := ks.zip ls) (fun b => [PV.val (.ref b.1), PV.str b.2]) (fun b => decide (b.1 = X)) (fun b => PV.str b.2)
    (by rw [← ez]; exact srcE_zip hh zl (ev_bi GG kk (by walk_at "mem") bz) (ev_name (by walk_at "mem")) (ev_name (by walk_at "mem"))) e1 (by kernel_rfl) (by simp) (by rw [List.length_zip]; lia) (by simp)
    (fun cenv ce b hb R => ?_) (fun cenv ce b hb _ R => ev_name (by walk_at "memz"))) (.refl _) F3 fun c' D h' t' x nD F4 dv => ?_
  · obtain ⟨l1, kb⟩ := kx.alive (List.of_mem_zip hb).1
    exact evi_one (evb_is (ev_name (by walk_at "memz")) (ev_name (by walk_at "memz")) kb kX)
  · exact k c' D h' t' F4.ex (F3.gnone nD) dv (F4.vals (by walk_at "mem"))
theorem thawX {X as : List Addr} {c2 h2 : Heap} (k : Up c h) (nc : ∀ a ∈ as, c.get? a = none) (x : Ext X (keepAt c h as) h c2 h2) : Ext X c h (hideAll c2 as) h2 where
  cc := fun b ob e => hideAll_get _ (x.cc _ _ (keepAt_up k _ _ e)) fun q => by rw [nc b q] at e; cases e
  ch := fun b ob e => x.ch _ _ (of_hideAll _ e)
  hh := x.hh
  lv := x.lv
  nw := fun b ob e => by
    have hb : b ∉ as := fun q => by rw [hideAll_none _ q] at e; cases e
    rcases x.nw b ob (of_hideAll _ e) with q | q
    · rcases keepAt_old k q with z | z
      · exact absurd z hb
      · exact .inl z
    · exact .inr q
/-- a stretch that writes one list of the frame's -/
theorem Fr.turn {a : Addr} {xs : List Value} {ps : List PV} (F : Fr G c env ρ R h) (x : Ext [a] c h c' h') (U : RepP a ps R R') (hl : h'.PlainList a xs.toArray) (dl : DenL c xs ps) : Fr G c' env ρ R' h' := by
  obtain ⟨pl, F⟩ := F
  have F1 := F.upd U x.hh hl dl
  exact ⟨pl, {
    ex := ⟨F.ex.cc.trans x.cc, x.ch, F1.ex.hh, F1.ex.lv, fun b ob e => by
      rcases x.nw b ob e with q | q
      · exact F.ex.nw b ob q
      · right
        cases z : G.h.get? b with
        | none => rfl
        | some o' => obtain ⟨o'', e'⟩ := F.ex.lv b o' z; rw [q] at e'; cases e'⟩
    fn := F.fn
    ns := F1.ns
    vars := fun q hq => by
      refine ⟨(F1.vars q hq).1, ?_⟩
      have := (F1.vars q hq).2
      revert this
      cases e : pl q.1 with
      | loc => rintro ⟨kd, m', hn', hv⟩; exact ⟨kd, m', hn', fun p e => let ⟨v, a, b⟩ := hv p e; ⟨v, a, Den.up x.cc _ b⟩⟩
      | own b => rintro ⟨kd, l, ov, hc, hv⟩; exact ⟨kd, l, ov, hc, fun p e => let ⟨v, a, b⟩ := hv p e; ⟨v, a, Den.up x.cc _ b⟩⟩
      | fro b => rintro ⟨kd, l, n, v', p', hc, e', d'⟩; exact ⟨kd, l, n, v', p', hc, e', Den.up x.cc _ d'⟩
    kn := F1.kn
    rl := fun q hq => let ⟨xs, hl, d⟩ := F1.rl q hq; ⟨xs, hl, DenL.up x.cc _ d⟩
    n1 := F1.n1
    n2 := F1.n2
    n3 := F1.n3
    n4 := F1.n4
    nc := fun b o => by
      have o' := (own_led U.keys b).mp o
      obtain ⟨ob, ho⟩ := F.live o'
      cases e : c'.get? b with
      | none => rfl
      | some o2 =>
        rcases x.nw b o2 e with q | q
        · rw [F.nc b o'] at q; cases q
        · rw [ho] at q; cases q
    xo := F1.xo
    nf := F1.nf
    cv := F1.cv }⟩
end
end Mine
namespace Mine
open PySem PySem.W PyProof.Rows
/-- the codes that the first class statement laid in the code table -/
noncomputable def codesL (file : Str) (x : Nat) (kc b : Nat → Nat) : Objs := [(kc 2 + 100, codeC file (b 99) x (kc 0 + 100) (kc 1 + 100)), (kc 1 + 100, tabC b), (b 6 + 100, codeK "__init__" "cmp_to_key.<locals>.K.__init__" file 8 (b 99 + 17) x (b 1 + 100) (b 2 + 100) (b 3 + 100) (b 4 + 100) (b 5 + 100)), (b 14 + 100, codeK "__lt__" "cmp_to_key.<locals>.K.__lt__" file 11 (b 99 + 25) x (b 9 + 100) (b 10 + 100) (b 11 + 100) (b 12 + 100) (b 13 + 100)),
  (b 22 + 100, codeK "__gt__" "cmp_to_key.<locals>.K.__gt__" file 14 (b 99 + 34) x (b 17 + 100) (b 18 + 100) (b 19 + 100) (b 20 + 100) (b 21 + 100)), (b 30 + 100, codeK "__eq__" "cmp_to_key.<locals>.K.__eq__" file 17 (b 99 + 43) x (b 25 + 100) (b 26 + 100) (b 27 + 100) (b 28 + 100) (b 29 + 100)), (b 38 + 100, codeK "__le__" "cmp_to_key.<locals>.K.__le__" file 20 (b 99 + 52) x (b 33 + 100) (b 34 + 100) (b 35 + 100) (b 36 + 100) (b 37 + 100)), (b 46 + 100, codeK "__ge__" "cmp_to_key.<locals>.K.__ge__" file 23 (b 99 + 61) x (b 41 + 100) (b 42 + 100) (b 43 + 100) (b 44 + 100) (b 45 + 100))]
/-- a second class's addresses and tokens: the codes are the first one's -/
noncomputable def mixB (t : Nat) (bo s : Nat → Nat) : Nat → Nat := fun i => if 200 ≤ i then t + (([(208, 2), (209, 3), (210, 4), (211, 5), (212, 6), (213, 7), (215, 9), (216, 10), (224, 11), (233, 12), (242, 13), (251, 14), (260, 15), (269, 16), (270, 17), (271, 18), (272, 19)] : List (Nat × Nat)).lookup i).getD 0
  else (([(0, 0), (7, 1), (8, 2), (15, 3), (16, 4), (23, 5), (24, 6), (31, 7), (32, 8), (39, 9), (40, 10), (47, 11)] : List (Nat × Nat)).lookup i).elim (bo i) s
noncomputable def NKb (l cc : Nat) (f fo : Obj) (file : Str) (x : Nat) (kc bo : Nat → Nat) : Objs := [(l + 100, fo), (cc + 100, f), (16, { cls := .none, data := .fields #[.int 4 0, .int 4 0, .ref (kc 2 + 100)] })] ++ codesL file x kc bo
noncomputable def NK1b (l cc : Nat) (f fo : Obj) (file : Str) (x : Nat) (kc bo : Nat → Nat) (a b e : Addr) : Objs := NKb l cc f fo file x kc bo ++ [(a, { cls := .type "tuple", data := .seq #[.type "object"] }), (b, { cls := .type "builtin_function_or_method", data := .fields #[.builtin "type.__prepare__", .type "type"] }), (e, { cls := .type "dict", data := .dict #[] 0 })]
section
variable {prog : Program} {w : World} {A : Around} {g : Array GenState} {d : Drawn} {o : OsState} {c h : Heap} {Q : Value → Shared → Prop} {E : Value → Shared → Prop} {t : Nat} {α β : Type} {B N : Objs}
set_option maxRecDepth 20000 in
set_option maxHeartbeats 2000000 in
theorem cls1b {hs : Nat → Int} {tk : Nat → Nat} {file : Str} {t1 t2 : Nat} {v : Nat → Nat} {kc bo : Nat → Nat} {l cc : Nat} {f : Obj} {fo : Obj} (hh : A.handled = none) (hB : ∀ q ∈ B2 hs tk file t1 t2 v, c.get? q.1 = some q.2) (O : Own1 c h (NKb l cc f fo file (v 3) kc bo)) (hlim : c.NoLimit) (hdp : A.depth < recursionLimit)
    (hk : ∀ T ns s st h', Own1 c h' (NM w.params t t1 (v 3) file l fo kc cc f T ns (mixB t bo s) st) → codeAny (model prog w) A (.call (.type "type") ⟨[.str "K" t, .ref (T + 100), .ref (ns + 100)], []⟩) (EndR c g d o Q) ⟨h', g, d, t + 20, o⟩) :
    wpAny (model prog w) A (clsRun (envK (l + 100) (cc + 100)) clsStm) Q E ⟨h, g, d, t, o⟩ := by
  rw [cls_is]
  unfold buildClass
  refine b_ok hh hB O [] (fun sup => .ref (sup 0 + 100)) (fun sup => NKb l cc f fo file (v 3) kc bo ++ [(sup 0 + 100, { cls := .type "tuple", data := .seq #[.type "object"] })]) t (fun sup => by kernel_rfl) (fun sup => by kernel_rfl) (fun sup => by kernel_rfl) (fun sup => by kernel_rfl) fun sup1 h1 O1 => ?_
  refine b_same hh hB O1 [] ⟨[.type "object"], false⟩ (fun sup => by kernel_rfl) (fun sup => by kernel_rfl) (fun sup => by kernel_rfl) (fun sup => by kernel_rfl) fun h2 O2 => ?_
  refine b_same hh hB O2 [] (.type "type") (fun sup => by kernel_rfl) (fun sup => by kernel_rfl) (fun sup => by kernel_rfl) (fun sup => by kernel_rfl) fun h3 O3 => ?_
  refine b_same hh hB O3 [] true (fun sup => by kernel_rfl) (fun sup => by kernel_rfl) (fun sup => by kernel_rfl) (fun sup => by kernel_rfl) fun h4 O4 => ?_
  refine b_same hh hB O4 [] (.type "type") (fun sup => by kernel_rfl) (fun sup => by kernel_rfl) (fun sup => by kernel_rfl) (fun sup => by kernel_rfl) fun h5 O5 => ?_
  refine b_tok hh hB O5 [] (.str "K" t) (t + 1) (fun sup => by kernel_rfl) (fun sup => by kernel_rfl) (fun sup => by kernel_rfl) (fun sup => by kernel_rfl) fun h6 O6 => ?_
  refine b_same hh hB O6 [] (.ref (sup1 0 + 100)) (fun sup => by kernel_rfl) (fun sup => by kernel_rfl) (fun sup => by kernel_rfl) (fun sup => by kernel_rfl) fun h7 O7 => ?_
  refine wpAny_holding ?_
  refine b_call hh hB O7 [] (fun sup => .call (.builtin "type.__getattribute__") ⟨[.type "type", .str "__prepare__" (t + 1)], []⟩) (fun sup => by kernel_rfl) (fun sup => by kernel_rfl) fun sup8 h8 O8 => ?_
  refine c_again hh hB O8 [] (fun sup => .builtin "type.__getattribute__" ⟨[.type "type", .str "__prepare__" (t + 1)], []⟩) rfl (fun sup => by kernel_rfl) (fun sup => by kernel_rfl) (fun sup => by kernel_rfl) fun sup9 h9 O9 => ?_
  refine c_call hh hB O9 [] (fun sup => .call (.builtin "classmethod_descriptor.__get__") ⟨[.builtin "type.__prepare__", .none, .type "type"], []⟩) (den_bi PySem.W.KF.entry_tga) (fun sup => by kernel_rfl) (fun sup => by kernel_rfl) fun sup10 h10 O10 => ?_
  refine c_again hh hB O10 [] (fun sup => .builtin "classmethod_descriptor.__get__" ⟨[.builtin "type.__prepare__", .none, .type "type"], []⟩) rfl (fun sup => by kernel_rfl) (fun sup => by kernel_rfl) (fun sup => by kernel_rfl) fun sup11 h11 O11 => ?_
  refine c_ret hh hB O11 [] (fun sup => .ret (.ref (sup 0 + 100))) (den_bi PySem.W.KFB.entry_get) (fun sup => by kernel_rfl) (fun sup => by kernel_rfl) fun sup12 h12 O12 => ?_
  refine seg_ok hh hB O12 [] (fun sup => .done (.ret (.ref (sup12 0 + 100)))) (fun sup => by kernel_rfl) (fun sup => by kernel_rfl) fun sup13 h13 O13 => ?_
  refine s_fin hh hB O13 [] (some (.ref (sup12 0 + 100))) (NKb l cc f fo file (v 3) kc bo ++ [(sup1 0 + 100, { cls := .type "tuple", data := .seq #[.type "object"] }), (sup12 0 + 100, { cls := .type "builtin_function_or_method", data := .fields #[.builtin "type.__prepare__", .type "type"] })]) (t + 2) (fun sup => by kernel_rfl) (fun sup => by kernel_rfl) (fun sup => by kernel_rfl) (fun sup => by kernel_rfl) fun h14 O14 => ?_
  refine b_call hh hB O14 [] (fun sup => .call (.ref (sup12 0 + 100)) ⟨[.str "K" t, .ref (sup1 0 + 100)], []⟩) (fun sup => by kernel_rfl) (fun sup => by kernel_rfl) fun sup15 h15 O15 => ?_
  refine c_again hh hB O15 [12] (fun sup => .builtin "type.__prepare__" ⟨[.type "type", .str "K" t, .ref (sup1 0 + 100)], []⟩) rfl (fun sup => by kernel_rfl) (fun sup => by kernel_rfl) (fun sup => by kernel_rfl) fun sup16 h16 O16 => ?_
  refine c_ret hh hB O16 [] (fun sup => .ret (.ref (sup 0 + 100))) (den_bi en_prep) (fun sup => by kernel_rfl) (fun sup => by kernel_rfl) fun sup17 h17 O17 => ?_
  refine s_fin hh hB O17 [] (.ref (sup17 0 + 100)) (NK1b l cc f fo file (v 3) kc bo (sup1 0 + 100) (sup12 0 + 100) (sup17 0 + 100)) (t + 2) (fun sup => by kernel_rfl) (fun sup => by kernel_rfl) (fun sup => by kernel_rfl) (fun sup => by kernel_rfl) fun h18 O18 => ?_
  clear O17 O16 O15 O13 O12 O11 O10 O9 O8 O7 O6 O5 O4 O3 O2 O1 O
  refine b_same hh hB O18 [] () (fun sup => by kernel_rfl) (fun sup => by kernel_rfl) (fun sup => by kernel_rfl) (fun sup => by kernel_rfl) fun h19 O19 => ?_
  refine b_same hh hB O19 [13] (some (.builtin "dict.__getitem__")) (fun sup => by kernel_rfl) (fun sup => by kernel_rfl) (fun sup => by kernel_rfl) (fun sup => by kernel_rfl) fun h20 O20 => ?_
  refine w_no (by decide) ?_
  refine wpAny_holding ?_
  refine b_same hh hB O20 [] none (fun sup => by kernel_rfl) (fun sup => by kernel_rfl) (fun sup => by kernel_rfl) (fun sup => by kernel_rfl) fun h21 O21 => ?_
  refine b_same hh hB O21 [] none (fun sup => by kernel_rfl) (fun sup => by kernel_rfl) (fun sup => by kernel_rfl) (fun sup => by kernel_rfl) fun h22 O22 => ?_
  refine b_same hh hB O22 [1002, 2] (.ref (kc 2 + 100)) (fun sup => by kernel_rfl) (fun sup => by kernel_rfl) (fun sup => by kernel_rfl) (fun sup => by kernel_rfl) fun h23 O23 => ?_
  refine b_same hh hB O23 [1000, 1001] 0 (fun sup => by kernel_rfl) (fun sup => by kernel_rfl) (fun sup => by kernel_rfl) (fun sup => by kernel_rfl) fun h24 O24 => ?_
  refine b_ok hh hB O24 [1000] (fun sup => sup 0 + 100) _ (t + 2) (fun sup => by kernel_rfl) (fun sup => by kernel_rfl) (fun sup => rfl) (fun sup => by kernel_rfl) fun sup25 h25 O25 => ?_
  refine b_same hh hB O25 [] [("mycmp", cc + 100)] (fun sup => by kernel_rfl) (fun sup => by kernel_rfl) (fun sup => by kernel_rfl) (fun sup => by kernel_rfl) fun h26 O26 => ?_
  refine wpAny_holding ?_
  clear O25 O24 O23 O22 O21 O20 O19 O18
  refine wpAny_bind (wpAny_enterFrame (hlim.keeps O26.up) hdp ?_)
  refine seg_call hh hB O26 [13, 13, 1000, 13, 13, 13, 13, 13, 13, 13, 13, 13] (fun sup => .body clsBody (cenvK (sup17 0 + 100) (cc + 100) (kc 2 + 100) (sup25 0 + 100))) (fun sup => by kernel_rfl) (fun sup => by kernel_rfl) fun sup27 h27 O27 => ?_
  refine c_ret hh hB O27 [13, 13, 13, 13, 13, 13, 3, 4, 1000, 1001, 1000, 13, 13, 13, 3, 4, 1000, 1001, 1000, 13, 13, 13, 3, 4, 1000, 1001, 1000, 13, 13, 13, 3, 4, 1000, 1001, 1000, 13, 13, 13, 3, 4, 1000, 1001, 1000, 13, 13, 13, 3, 4, 1000, 1001, 1000, 13, 13, 13, 13, 13, 13] (fun sup => .next) rfl (fun sup => by kernel_rfl) (fun sup => by kernel_rfl) fun sup28 h28 O28 => ?_
  refine seg_call hh hB O28 [13, 13, 13] (fun sup => .call (.type "type") ⟨[.str "K" t, .ref (sup1 0 + 100), .ref (sup17 0 + 100)], []⟩) (fun sup => by kernel_rfl) (fun sup => by kernel_rfl) fun sup29 h29 O29 => ?_
  have O30 : Own1 c h29 (NM w.params t t1 (v 3) file l fo kc cc f (sup1 0) (sup17 0) (mixB t bo sup28) (sup29 0)) := O29.pick [1, 11, 13, 15, 16, 18, 20, 22, 24, 26, 27, 5, 6, 2, 3, 4, 7, 8, 9, 10, 0] (by decide) (by kernel_rfl)
  refine at_toks (t' := t + 20) (by kernel_rfl) ?_
  refine codeAny_mono (hk _ _ _ _ _ O30) ?_
  rintro x s' ⟨v', t', N', rfl, hs', O', q⟩
  rw [hs']
  generalize hz : outK _ _ = z
  exact s_fin hh hB O' [] v' N' t' (fun sup => by rw [← hz]; kernel_rfl) (fun sup => by rw [← hz]; kernel_rfl) (fun sup => by rw [← hz]; kernel_rfl) (fun sup => by rw [← hz]; kernel_rfl) fun h' O'' => q h' O''
end
end Mine
namespace Mine
open PySem PySem.W PyProof.Rows
section
variable {prog : Program} {w : World} {A : Around} {g : Array GenState} {d : Drawn} {o : OsState} {c h : Heap} {t : Nat}
set_option maxRecDepth 20000 in
set_option maxHeartbeats 2000000 in
/-- the class statement, whole, where the code table holds the first class's codes -/
theorem cls2b {hs : Nat → Int} {tk : Nat → Nat} {file : Str} {t1 t2 : Nat} {v : Nat → Nat} {kc bo : Nat → Nat} {l cc : Nat} {f : Obj} {fo : Obj} {Q E : Value → Shared → Prop} (hh : A.handled = none) (hB : ∀ q ∈ B2 hs tk file t1 t2 v, c.get? q.1 = some q.2) (O : Own1 c h (NKb l cc f fo file (v 3) kc bo)) (hlim : c.NoLimit) (hdp : A.depth < recursionLimit)
    (k : ∀ T ns s st nn C mb h', Own1 c h' (NC w.params t t1 (v 3) (t + 20) file l fo kc cc f T ns (mixB t bo s) st nn C mb) → Q (.ref (C + 100)) ⟨h', g, d, t + 24, o⟩) :
    wpAny (model prog w) A (clsRun (envK (l + 100) (cc + 100)) clsStm) Q E ⟨h, g, d, t, o⟩ :=
  cls1b hh hB O hlim hdp fun T ns s st h' O' => tcall hh hB O' fun nn C mb h'' O'' => ⟨_, _, _, rfl, rfl, O'', fun h3 O3 => k T ns s st nn C mb h3 O3⟩
end
end Mine
namespace Mine
open PySem PySem.W PyProof.Rows
/-- the codes of the class, but for the two that KB holds -/
noncomputable def codesR (file : Str) (x : Nat) (kc b : Nat → Nat) : Objs := [(kc 2 + 100, codeC file (b 99) x (kc 0 + 100) (kc 1 + 100)), (kc 1 + 100, tabC b),
  (b 22 + 100, codeK "__gt__" "cmp_to_key.<locals>.K.__gt__" file 14 (b 99 + 34) x (b 17 + 100) (b 18 + 100) (b 19 + 100) (b 20 + 100) (b 21 + 100)), (b 30 + 100, codeK "__eq__" "cmp_to_key.<locals>.K.__eq__" file 17 (b 99 + 43) x (b 25 + 100) (b 26 + 100) (b 27 + 100) (b 28 + 100) (b 29 + 100)), (b 38 + 100, codeK "__le__" "cmp_to_key.<locals>.K.__le__" file 20 (b 99 + 52) x (b 33 + 100) (b 34 + 100) (b 35 + 100) (b 36 + 100) (b 37 + 100)), (b 46 + 100, codeK "__ge__" "cmp_to_key.<locals>.K.__ge__" file 23 (b 99 + 61) x (b 41 + 100) (b 42 + 100) (b 43 + 100) (b 44 + 100) (b 45 + 100))]
/-- the codes of the class stand -/
noncomputable def CodAt (c : Heap) (file : Str) (x : Nat) (kc b : Nat → Nat) : Prop := (∀ q ∈ codesL file x kc b, c.get? q.1 = some q.2) ∧ ((codesL file x kc b).map (·.1)).Nodup ∧ ∀ q ∈ codesL file x kc b, q.1 ≠ 16
theorem CodAt.up {c c' : Heap} {file : Str} {x : Nat} {kc b : Nat → Nat} (k : CodAt c file x kc b) (u : Up c c') : CodAt c' file x kc b := ⟨fun q hq => u _ _ (k.1 q hq), k.2⟩
section
variable {prog : Program} {w : World} {A : Around} {g : Array GenState} {d : Drawn} {o : OsState} {c h : Heap} {t : Nat} {nm bn : List (Str × Value)}
set_option maxRecDepth 20000 in
set_option maxHeartbeats 2000000 in
theorem ctk1 {hs : Nat → Int} {tkk : Nat → Nat} {u1 u2 : Nat} {v : Nat → Nat} {file : Str} {f : Value} {Q E : Value → Shared → Prop} (D : IsCtk c) (hB : ∀ q ∈ B2 hs tkk file u1 u2 v, c.get? q.1 = some q.2) (GG : Glb c nm bn)
    (b1 : (("object" : Str), Value.type "object") ∈ bn) (b2 : (("__build_class__" : Str), Value.builtin "__build_class__") ∈ bn) (u : Up c h) (c48 : c.get? 16 = none) (h48 : h.get? 16 = some { cls := .none, data := .fields #[] }) (rm : Rm A 2) (sz : 100 ≤ h.objs.size)
    (k : ∀ a c' h' t' kc b, Ext [16] c h c' h' → KC w.params c' a f → CodAt c' file (v 3) kc b → h'.get? 16 = some { cls := .none, data := .fields #[.int 4 0, .int 4 0, .ref (kc 2 + 100)] } → Q (.ref a) ⟨h', g, d, t', o⟩) :
    wpAny (model prog w) A (call (.ref 21) [f]) Q E ⟨h, g, d, t, o⟩ := by
  obtain ⟨nm', kV, doc, pm, an, ct, ob, ho, hd⟩ := D
  have lim := GG.lim
  refine wpAny_call (codeAny_call_cells (fd := fnOf nm' "cmp_to_key" (argsOf (stm 1)) (bodyOf (stm 1)) (scopeOf (stm 1)) .none kV doc pm an (.ref 20) ct) (body := bodyOf (stm 1)) (binds := [("mycmp", f)]) rm.room (u _ _ ho) hd (lim.keeps u)
    ⟨20, _, _, v 1, rfl, u _ _ (hB (20, _) (by unfold B2; exact .tail _ (.tail _ (.head _)))), rfl, rfl⟩ rfl rfl rfl (fun y hy => by rw [List.mem_singleton.mp hy]; exact .inr ⟨by kernel_rfl, by kernel_rfl⟩) (fun s₁ x => ?_) (by kernel_rfl) (by kernel_rfl) (by kernel_rfl))
  have he : callEnvC (fnOf nm' "cmp_to_key" (argsOf (stm 1)) (bodyOf (stm 1)) (scopeOf (stm 1)) .none kV doc pm an (.ref 20) ct) h.objs.size 21 = envK h.objs.size (h.objs.size + 1) := by kernel_rfl
  rw [show (⟨h, g, d, t, o⟩ : Shared).heap.objs.size = h.objs.size from rfl, he] at x ⊢
  obtain ⟨h₁, t₁, rfl⟩ := x.toInCall.same
  have up : Up h h₁ := x.toInCall.keep
  have fresh : ∀ a, h.objs.size ≤ a → h.get? a = none := fun a q => by
    cases e : h.get? a with
    | none => rfl
    | some o => exact absurd (Heap.lt_size e) (Nat.not_lt.mpr q)
  generalize hL : h.objs.size = L at x fresh sz ⊢
  obtain ⟨l, rfl⟩ : ∃ l, L = l + 100 := ⟨L - 100, by lia⟩
  rw [show l + 100 + 1 = (l + 1) + 100 by lia] at x ⊢
  obtain ⟨fo, es, ep, hfo, hfd, hfk, hfm⟩ := x.toInCall.ns
  obtain ⟨co, hco, hcd⟩ := x.cell "mycmp" (l + 1 + 100) (by kernel_rfl)
  have hcd' : co.data = .cell (some f) := by rw [hcd]; exact congrArg _ (bindC_mem _ (by simp) (by simp) (by rw [show (envK (l + 100) (l + 1 + 100)).kindOf "mycmp" = some .cell by kernel_rfl]; decide))
  replace hfo : h₁.get? (l + 100) = some fo := hfo
  have rm' := rm.deep (env := envK (l + 100) (l + 1 + 100))
  generalize hA : A.deeper (envK (l + 100) (l + 1 + 100)) = A' at rm' ⊢
  have O : Own1 (hideAll h₁ [l + 100, l + 1 + 100, 16]) h₁ (NK l (l + 1) co fo) := by
    refine ⟨fun _ _ e => of_hideAll _ e, fun q hq => ?_, fun q hq => ?_, ?_, ?_⟩
    · simp only [NK, List.mem_cons, List.not_mem_nil, or_false] at hq
      rcases hq with rfl | rfl | rfl
      · exact hfo
      · exact hco
      · exact up _ _ h48
    · simp only [NK, List.mem_cons, List.not_mem_nil, or_false] at hq
      rcases hq with rfl | rfl | rfl <;> exact hideAll_none _ (by simp)
    · simp only [NK, List.map_cons, List.map_nil, List.nodup_cons, List.mem_cons, List.not_mem_nil, or_false, not_or, not_false_eq_true, List.nodup_nil, and_true]
      have n1 : (l + 100 : Nat) ≠ l + 1 + 100 := by lia
      have n2 : (l + 100 : Nat) ≠ 16 := by lia
      have n3 : (l + 1 + 100 : Nat) ≠ 16 := by lia
      exact ⟨⟨n1, n2⟩, n3⟩
    · exact Nat.le_trans (Nat.le_add_left 100 l) (Nat.le_of_lt (Heap.lt_size hfo))
  have keep0 : ∀ a o, c.get? a = some o → (hideAll h₁ [l + 100, l + 1 + 100, 16]).get? a = some o := fun a o e => by
    refine hideAll_get _ (up _ _ (u _ _ e)) fun q => ?_
    simp only [List.mem_cons, List.not_mem_nil, or_false] at q
    rcases q with rfl | rfl | rfl
    · have := fresh (l + 100) (Nat.le_refl _); rw [u _ _ e] at this; cases this
    · have := fresh (l + 1 + 100) (by lia); rw [u _ _ e] at this; cases this
    · rw [c48] at e; cases e
  obtain ⟨mg, mb, hmg, hmb, hn1, hn2⟩ := GG.ex
  have hmb1 : h₁.Ns builtinsNs mb := (hmb.keeps u).keeps up
  have hmg1 : h₁.Ns mainGlobals mg := (hmg.keeps u).keeps up
  rw [ctk_body]
  refine wpAny_execs_cons ?_
  rw [cls_stm, arm_exec_ClassDef]
  refine wpAny_bind (wpAny_evalAll_nil (wpAny_bind (wpAny_standAt (wpAny_bind ?_))))
  unfold buildClassGuard
  refine wpAny_bind (wpAny_nsGet hmb1 ?_)
  rw [(hn2 _ b2).2]
  refine wpAny_pure (wpAny_bind (wpAny_holding ?_))
  refine wpAny_bind ?_
  unfold evalArgs
  refine wpAny_bind (args_cons (Calls.Name_function_global (by kernel_rfl) (by kernel_rfl) (Calls.loadGlobal_builtin hmg1 (hn2 _ b1).1 hmb1 (hn2 _ b1).2 ?_) (by kernel_rfl)))
  refine args_nil (wpAny_bind (wpAny_pure (wpAny_holding ?_)))
  refine w_yesB rfl ?_
  refine wpAny_bind (wpAny_evalAll_nil (wpAny_bind (wpAny_pure (wpAny_pure ?_))))
  refine wpAny_bind (wpAny_standAt (wpAny_holding ?_))
  show wpAny (model prog w) A' (buildClass "K" (qualnameIn (envK (l + 100) (l + 1 + 100)) "K" "K") [.type "object"] [] clsBody clsScope clsStatics 4 (envK (l + 100) (l + 1 + 100)) clsPos none) _ _ ⟨h₁, g, d, t₁, o⟩
  rw [← cls_is]
  refine cls2 rm'.hd (fun q hq => keep0 _ _ (hB q hq)) O (lim.keeps keep0) rm'.room fun kc T ns b st nn C mbb h2 O2 => ?_
  refine wpAny_bind (wpAny_pure (wpAny_bind (wpAny_standAt (wpAny_bind ?_))))
  have hns2 : h2.Ns (l + 100) (fun y => nsFind es y) := ⟨fo, es, ep, O2.get 20 rfl, hfd, hfk, fun _ => rfl⟩
  unfold bindName
  refine wpAny_bind (wpAny_holding (wpAny_point (wpAny_bind (wpAny_storeName_local (by kernel_rfl) hns2 (fun h3 hn3 hs3 => ?_) (by kernel_rfl)))))
  refine wpAny_point (wpAny_pure ?_)
  refine wpAny_execs_cons (wpAny_Return_some (wpAny_Name (wpAny_loadName_local (by kernel_rfl) (by kernel_rfl) hn3 (v := .ref (C + 100)) (by simp) ?_) (by kernel_rfl)))
  have O3 := O2.pick (N2 := KB w.params t₁ u1 (v 3) (t₁ + 73) file (l + 1) co T b st nn C mbb ++ codesR file (v 3) kc b ++ [(16, { cls := .none, data := .fields #[.int 4 0, .int 4 0, .ref (kc 2 + 100)] })]) [0, 4, 5, 11, 12, 21, 22, 23, 14, 15, 16, 17, 18, 19, 13] (by decide) (by kernel_rfl)
  have nl : ∀ q ∈ KB w.params t₁ u1 (v 3) (t₁ + 73) file (l + 1) co T b st nn C mbb ++ codesR file (v 3) kc b ++ [(16, { cls := .none, data := .fields #[.int 4 0, .int 4 0, .ref (kc 2 + 100)] })], q.1 ≠ l + 100 := fun q hq => by
    have O4 := O2.pick (N2 := (l + 100, fo) :: (KB w.params t₁ u1 (v 3) (t₁ + 73) file (l + 1) co T b st nn C mbb ++ codesR file (v 3) kc b ++ [(16, { cls := .none, data := .fields #[.int 4 0, .int 4 0, .ref (kc 2 + 100)] })])) [20, 0, 4, 5, 11, 12, 21, 22, 23, 14, 15, 16, 17, 18, 19, 13] (by decide) (by kernel_rfl)
    have := O4.nd
    rw [List.map_cons, List.nodup_cons] at this
    exact fun e => this.1 (e ▸ List.mem_map_of_mem (f := (·.1)) hq)
  have at3 : ∀ q ∈ KB w.params t₁ u1 (v 3) (t₁ + 73) file (l + 1) co T b st nn C mbb ++ codesR file (v 3) kc b ++ [(16, { cls := .none, data := .fields #[.int 4 0, .int 4 0, .ref (kc 2 + 100)] })], h3.get? q.1 = some q.2 := fun q hq => by
    rw [hs3.2 q.1 (nl q hq)]; exact O3.at' q hq
  have ub : UpBut [16] h h3 := fun a ob hn e => by
    have hn : a ≠ 16 := by simpa using hn
    have nl : a ≠ l + 100 := fun q => by rw [q, fresh (l + 100) (Nat.le_refl _)] at e; cases e
    rw [hs3.2 a nl]
    refine O2.up _ _ (hideAll_get _ (up _ _ e) fun q => ?_)
    simp only [List.mem_cons, List.not_mem_nil, or_false] at q
    rcases q with q | q | q
    · exact nl q
    · rw [q, fresh (l + 1 + 100) (by have : (l + 100 : Nat) ≤ l + 1 + 100 := by lia
                                     exact this)] at e; cases e
    · exact hn q
  obtain ⟨c', x', hc'⟩ := Ext.many (X := [16]) u ub (fun a ha ob e => by rw [List.mem_singleton.mp ha]; exact ⟨_, at3 (16, { cls := .none, data := .fields #[.int 4 0, .int 4 0, .ref (kc 2 + 100)] }) (by simp)⟩) (fun a ha => by rw [List.mem_singleton.mp ha]; exact c48)
    ((KB w.params t₁ u1 (v 3) (t₁ + 73) file (l + 1) co T b st nn C mbb ++ codesR file (v 3) kc b).map (·.1)) (fun a ha => by
      obtain ⟨q, hq, rfl⟩ := List.mem_map.mp ha
      have n48 : q.1 ≠ 16 := fun e => by
        have := O3.nd
        rw [List.map_append, List.nodup_append] at this
        exact this.2.2 q.1 (List.mem_map_of_mem (f := (·.1)) hq) 16 (by simp) e
      cases e : h.get? q.1 with
      | none => rfl
      | some ob =>
        exfalso
        have e2 := O3.nc q (List.mem_append_left _ hq)
        rw [hideAll_get _ (up _ _ e) (fun z => ?_)] at e2
        · cases e2
        simp only [List.mem_cons, List.not_mem_nil, or_false] at z
        rcases z with z | z | z
        · rw [z, fresh (l + 100) (Nat.le_refl _)] at e; cases e
        · rw [z, fresh (l + 1 + 100) (by have : (l + 100 : Nat) ≤ l + 1 + 100 := by lia
                                         exact this)] at e; cases e
        · exact n48 z)
  have all : ∀ q ∈ KB w.params t₁ u1 (v 3) (t₁ + 73) file (l + 1) co T b st nn C mbb ++ codesR file (v 3) kc b, c'.get? q.1 = some q.2 := fun q hq =>
    hc' q.1 (List.mem_map_of_mem (f := (·.1)) hq) _ (at3 q (List.mem_append_left _ hq))
  have Oc := O2.pick (N2 := codesL file (v 3) kc b ++ [(16, { cls := .none, data := .fields #[.int 4 0, .int 4 0, .ref (kc 2 + 100)] })]) [14, 15, 11, 12, 16, 17, 18, 19, 13] (by decide) (by kernel_rfl)
  have nd := Oc.nd
  rw [List.map_append, List.nodup_append] at nd
  refine k _ c' h3 _ kc b x' ⟨hs, tkk, u1, u2, v, file, t₁, u1, v 3, t₁ + 73, l + 1, co, T, b, st, nn, C, mbb, hcd', rfl, fun q hq => ?_⟩ ⟨fun q hq => all q ?_, nd.1, fun q hq => nd.2.2 q.1 (List.mem_map_of_mem (f := (·.1)) hq) 16 (by simp)⟩ (at3 (16, { cls := .none, data := .fields #[.int 4 0, .int 4 0, .ref (kc 2 + 100)] }) (by simp))
  · rcases List.mem_append.mp hq with hq | hq
    · exact x'.cc _ _ (hB q hq)
    · exact all q (List.mem_append_left _ hq)
  · simp only [codesL, List.mem_cons, List.not_mem_nil, or_false] at hq
    rcases hq with rfl | rfl | rfl | rfl | rfl | rfl | rfl | rfl <;> simp [KB, codesR]
end
end Mine
namespace Mine
open PySem PySem.W PyProof.Rows
section
variable {prog : Program} {w : World} {A : Around} {g : Array GenState} {d : Drawn} {o : OsState} {c h : Heap} {t : Nat} {nm bn : List (Str × Value)}
set_option maxRecDepth 20000 in
set_option maxHeartbeats 2000000 in
theorem ctk2 {hs : Nat → Int} {tkk : Nat → Nat} {u1 u2 : Nat} {v : Nat → Nat} {kz bo : Nat → Nat} {file : Str} {f : Value} {Q E : Value → Shared → Prop} (D : IsCtk c) (hB : ∀ q ∈ B2 hs tkk file u1 u2 v, c.get? q.1 = some q.2) (GG : Glb c nm bn)
    (b1 : (("object" : Str), Value.type "object") ∈ bn) (b2 : (("__build_class__" : Str), Value.builtin "__build_class__") ∈ bn) (u : Up c h) (c48 : c.get? 16 = none) (hcod : CodAt c file (v 3) kz bo) (h48 : h.get? 16 = some { cls := .none, data := .fields #[.int 4 0, .int 4 0, .ref (kz 2 + 100)] }) (rm : Rm A 2) (sz : 100 ≤ h.objs.size)
    (k : ∀ a c' h' t', Ext [16] c h c' h' → KC w.params c' a f → h'.get? 16 = some { cls := .none, data := .fields #[.int 4 0, .int 4 0, .ref (kz 2 + 100)] } → Q (.ref a) ⟨h', g, d, t', o⟩) :
    wpAny (model prog w) A (call (.ref 21) [f]) Q E ⟨h, g, d, t, o⟩ := by
  obtain ⟨nm', kV, doc, pm, an, ct, ob, ho, hd⟩ := D
  have lim := GG.lim
  refine wpAny_call (codeAny_call_cells (fd := fnOf nm' "cmp_to_key" (argsOf (stm 1)) (bodyOf (stm 1)) (scopeOf (stm 1)) .none kV doc pm an (.ref 20) ct) (body := bodyOf (stm 1)) (binds := [("mycmp", f)]) rm.room (u _ _ ho) hd (lim.keeps u)
    ⟨20, _, _, v 1, rfl, u _ _ (hB (20, _) (by unfold B2; exact .tail _ (.tail _ (.head _)))), rfl, rfl⟩ rfl rfl rfl (fun y hy => by rw [List.mem_singleton.mp hy]; exact .inr ⟨by kernel_rfl, by kernel_rfl⟩) (fun s₁ x => ?_) (by kernel_rfl) (by kernel_rfl) (by kernel_rfl))
  have he : callEnvC (fnOf nm' "cmp_to_key" (argsOf (stm 1)) (bodyOf (stm 1)) (scopeOf (stm 1)) .none kV doc pm an (.ref 20) ct) h.objs.size 21 = envK h.objs.size (h.objs.size + 1) := by kernel_rfl
  rw [show (⟨h, g, d, t, o⟩ : Shared).heap.objs.size = h.objs.size from rfl, he] at x ⊢
  obtain ⟨h₁, t₁, rfl⟩ := x.toInCall.same
  have up : Up h h₁ := x.toInCall.keep
  have fresh : ∀ a, h.objs.size ≤ a → h.get? a = none := fun a q => by
    cases e : h.get? a with
    | none => rfl
    | some o => exact absurd (Heap.lt_size e) (Nat.not_lt.mpr q)
  generalize hL : h.objs.size = L at x fresh sz ⊢
  obtain ⟨l, rfl⟩ : ∃ l, L = l + 100 := ⟨L - 100, by lia⟩
  rw [show l + 100 + 1 = (l + 1) + 100 by lia] at x ⊢
  obtain ⟨fo, es, ep, hfo, hfd, hfk, hfm⟩ := x.toInCall.ns
  obtain ⟨co, hco, hcd⟩ := x.cell "mycmp" (l + 1 + 100) (by kernel_rfl)
  have hcd' : co.data = .cell (some f) := by rw [hcd]; exact congrArg _ (bindC_mem _ (by simp) (by simp) (by rw [show (envK (l + 100) (l + 1 + 100)).kindOf "mycmp" = some .cell by kernel_rfl]; decide))
  replace hfo : h₁.get? (l + 100) = some fo := hfo
  have rm' := rm.deep (env := envK (l + 100) (l + 1 + 100))
  generalize hA : A.deeper (envK (l + 100) (l + 1 + 100)) = A' at rm' ⊢
  have cl : ∀ q ∈ codesL file (v 3) kz bo, h₁.get? q.1 = some q.2 := fun q hq => up _ _ (u _ _ (hcod.1 q hq))
  have cn1 : ∀ q ∈ codesL file (v 3) kz bo, q.1 ≠ l + 100 := fun q hq e => by
    have := u _ _ (hcod.1 q hq); rw [e, fresh (l + 100) (Nat.le_refl _)] at this; cases this
  have cn2 : ∀ q ∈ codesL file (v 3) kz bo, q.1 ≠ l + 1 + 100 := fun q hq e => by
    have := u _ _ (hcod.1 q hq); rw [e, fresh (l + 1 + 100) (by have : (l + 100 : Nat) ≤ l + 1 + 100 := by lia
                                                                exact this)] at this; cases this
  have big : ∀ q ∈ codesL file (v 3) kz bo, 100 ≤ q.1 := fun q hq => by
    simp only [codesL, List.mem_cons, List.not_mem_nil, or_false] at hq
    rcases hq with rfl | rfl | rfl | rfl | rfl | rfl | rfl | rfl <;> exact Nat.le_add_left _ _
  generalize hH : [l + 100, l + 1 + 100, 16] ++ (codesL file (v 3) kz bo).map (·.1) = H
  have O : Own1 (hideAll h₁ H) h₁ (NKb l (l + 1) co fo file (v 3) kz bo) := by
    refine ⟨fun _ _ e => of_hideAll _ e, fun q hq => ?_, fun q hq => ?_, ?_, ?_⟩
    · rcases List.mem_append.mp hq with hq | hq
      · simp only [List.mem_cons, List.not_mem_nil, or_false] at hq
        rcases hq with rfl | rfl | rfl
        · exact hfo
        · exact hco
        · exact up _ _ h48
      · exact cl q hq
    · refine hideAll_none _ ?_
      rw [← hH]
      rcases List.mem_append.mp hq with hq | hq
      · refine List.mem_append_left _ ?_
        simp only [List.mem_cons, List.not_mem_nil, or_false] at hq
        rcases hq with rfl | rfl | rfl <;> simp
      · exact List.mem_append_right _ (List.mem_map_of_mem hq)
    · have n1 : (l + 100 : Nat) ≠ l + 1 + 100 := by lia
      unfold NKb
      rw [List.map_append, List.nodup_append]
      refine ⟨?_, hcod.2.1, fun a ha b hb => ?_⟩
      · have n2 : (l + 100 : Nat) ≠ 16 := by lia
        have n3 : (l + 1 + 100 : Nat) ≠ 16 := by lia
        simp only [List.map_cons, List.map_nil, List.nodup_cons, List.mem_cons, List.not_mem_nil, or_false, not_or, not_false_eq_true, List.nodup_nil, and_true]
        exact ⟨⟨n1, n2⟩, n3⟩
      · obtain ⟨q, hq, rfl⟩ := List.mem_map.mp hb
        simp only [List.map_cons, List.map_nil, List.mem_cons, List.not_mem_nil, or_false] at ha
        rcases ha with rfl | rfl | rfl
        · exact (cn1 q hq).symm
        · exact (cn2 q hq).symm
        · exact (hcod.2.2 q hq).symm
    · exact Nat.le_trans (Nat.le_add_left 100 l) (Nat.le_of_lt (Heap.lt_size hfo))
  have inH : ∀ a, a ∈ H → a = l + 100 ∨ a = l + 1 + 100 ∨ a = 16 ∨ ∃ q ∈ codesL file (v 3) kz bo, q.1 = a := fun a ha => by
    rw [← hH] at ha
    rcases List.mem_append.mp ha with ha | ha
    · simp only [List.mem_cons, List.not_mem_nil, or_false] at ha
      rcases ha with ha | ha | ha
      · exact .inl ha
      · exact .inr (.inl ha)
      · exact .inr (.inr (.inl ha))
    · obtain ⟨q, hq, e⟩ := List.mem_map.mp ha
      exact .inr (.inr (.inr ⟨q, hq, e⟩))
  have keep0 : ∀ a o, a < 100 → c.get? a = some o → (hideAll h₁ H).get? a = some o := fun a o ha e => by
    refine hideAll_get _ (up _ _ (u _ _ e)) fun q => ?_
    rcases inH a q with rfl | rfl | rfl | ⟨q', hq, rfl⟩
    · exact absurd (show (l + 100 : Nat) < 100 from ha) (by lia)
    · exact absurd (show (l + 1 + 100 : Nat) < 100 from ha) (by lia)
    · rw [c48] at e; cases e
    · exact absurd (big q' hq) (Nat.not_le.mpr ha)
  have B2s : ∀ q ∈ B2 hs tkk file u1 u2 v, q.1 < 100 := fun q hq => by
    simp only [B2, List.mem_cons, List.not_mem_nil, or_false] at hq
    rcases hq with rfl | rfl | rfl | rfl
    · exact (by decide : (3 : Nat) < 100)
    · exact (by decide : (4 : Nat) < 100)
    · exact (by decide : (20 : Nat) < 100)
    · exact (by decide : (2 : Nat) < 100)
  have limH : (hideAll h₁ H).NoLimit := by
    obtain ⟨m, ⟨o2, es2, ep2, e2, ed2, ek2, em2⟩, hn⟩ := lim
    exact ⟨m, ⟨o2, es2, ep2, keep0 _ _ (by decide) e2, ed2, ek2, em2⟩, hn⟩
  obtain ⟨mg, mb, hmg, hmb, hn1, hn2⟩ := GG.ex
  have hmb1 : h₁.Ns builtinsNs mb := (hmb.keeps u).keeps up
  have hmg1 : h₁.Ns mainGlobals mg := (hmg.keeps u).keeps up
  rw [ctk_body]
  refine wpAny_execs_cons ?_
  rw [cls_stm, arm_exec_ClassDef]
  refine wpAny_bind (wpAny_evalAll_nil (wpAny_bind (wpAny_standAt (wpAny_bind ?_))))
  unfold buildClassGuard
  refine wpAny_bind (wpAny_nsGet hmb1 ?_)
  rw [(hn2 _ b2).2]
  refine wpAny_pure (wpAny_bind (wpAny_holding ?_))
  refine wpAny_bind ?_
  unfold evalArgs
  refine wpAny_bind (args_cons (Calls.Name_function_global (by kernel_rfl) (by kernel_rfl) (Calls.loadGlobal_builtin hmg1 (hn2 _ b1).1 hmb1 (hn2 _ b1).2 ?_) (by kernel_rfl)))
  refine args_nil (wpAny_bind (wpAny_pure (wpAny_holding ?_)))
  refine w_yesB rfl ?_
  refine wpAny_bind (wpAny_evalAll_nil (wpAny_bind (wpAny_pure (wpAny_pure ?_))))
  refine wpAny_bind (wpAny_standAt (wpAny_holding ?_))
  show wpAny (model prog w) A' (buildClass "K" (qualnameIn (envK (l + 100) (l + 1 + 100)) "K" "K") [.type "object"] [] clsBody clsScope clsStatics 4 (envK (l + 100) (l + 1 + 100)) clsPos none) _ _ ⟨h₁, g, d, t₁, o⟩
  rw [← cls_is]
  refine cls2b rm'.hd (fun q hq => keep0 _ _ (B2s q hq) (hB q hq)) O limH rm'.room fun T ns s st nn C mbb h2 O2 => ?_
  generalize hb : mixB t₁ bo s = b at O2
  have hbc : codesL file (v 3) kz b = codesL file (v 3) kz bo := by rw [← hb]; rfl
  refine wpAny_bind (wpAny_pure (wpAny_bind (wpAny_standAt (wpAny_bind ?_))))
  have hns2 : h2.Ns (l + 100) (fun y => nsFind es y) := ⟨fo, es, ep, O2.get 20 rfl, hfd, hfk, fun _ => rfl⟩
  unfold bindName
  refine wpAny_bind (wpAny_holding (wpAny_point (wpAny_bind (wpAny_storeName_local (by kernel_rfl) hns2 (fun h3 hn3 hs3 => ?_) (by kernel_rfl)))))
  refine wpAny_point (wpAny_pure ?_)
  refine wpAny_execs_cons (wpAny_Return_some (wpAny_Name (wpAny_loadName_local (by kernel_rfl) (by kernel_rfl) hn3 (v := .ref (C + 100)) (by simp) ?_) (by kernel_rfl)))
  have O3 := O2.pick (N2 := KB w.params t₁ u1 (v 3) (t₁ + 20) file (l + 1) co T b st nn C mbb ++ codesR file (v 3) kz b ++ [(16, { cls := .none, data := .fields #[.int 4 0, .int 4 0, .ref (kz 2 + 100)] })]) [0, 4, 5, 11, 12, 21, 22, 23, 14, 15, 16, 17, 18, 19, 13] (by decide) (by kernel_rfl)
  have nl : ∀ q ∈ KB w.params t₁ u1 (v 3) (t₁ + 20) file (l + 1) co T b st nn C mbb ++ codesR file (v 3) kz b ++ [(16, { cls := .none, data := .fields #[.int 4 0, .int 4 0, .ref (kz 2 + 100)] })], q.1 ≠ l + 100 := fun q hq => by
    have O4 := O2.pick (N2 := (l + 100, fo) :: (KB w.params t₁ u1 (v 3) (t₁ + 20) file (l + 1) co T b st nn C mbb ++ codesR file (v 3) kz b ++ [(16, { cls := .none, data := .fields #[.int 4 0, .int 4 0, .ref (kz 2 + 100)] })])) [20, 0, 4, 5, 11, 12, 21, 22, 23, 14, 15, 16, 17, 18, 19, 13] (by decide) (by kernel_rfl)
    have := O4.nd
    rw [List.map_cons, List.nodup_cons] at this
    exact fun e => this.1 (e ▸ List.mem_map_of_mem (f := (·.1)) hq)
  have at3 : ∀ q ∈ KB w.params t₁ u1 (v 3) (t₁ + 20) file (l + 1) co T b st nn C mbb ++ codesR file (v 3) kz b ++ [(16, { cls := .none, data := .fields #[.int 4 0, .int 4 0, .ref (kz 2 + 100)] })], h3.get? q.1 = some q.2 := fun q hq => by
    rw [hs3.2 q.1 (nl q hq)]; exact O3.at' q hq
  have hcR : ∀ q ∈ codesL file (v 3) kz bo, h3.get? q.1 = some q.2 := fun q hq => by
    rw [← hbc] at hq
    refine at3 q ?_
    simp only [codesL, List.mem_cons, List.not_mem_nil, or_false] at hq
    rcases hq with rfl | rfl | rfl | rfl | rfl | rfl | rfl | rfl <;> simp [KB, codesR]
  have ub : UpBut [16] h h3 := fun a ob hn e => by
    have hn : a ≠ 16 := by simpa using hn
    have nl : a ≠ l + 100 := fun q => by rw [q, fresh (l + 100) (Nat.le_refl _)] at e; cases e
    by_cases hz : a ∈ H
    · rcases inH a hz with q | q | q | ⟨q, hq, rfl⟩
      · exact absurd q nl
      · rw [q, fresh (l + 1 + 100) (by have : (l + 100 : Nat) ≤ l + 1 + 100 := by lia
                                       exact this)] at e; cases e
      · exact absurd q hn
      · rw [u _ _ (hcod.1 q hq)] at e
        exact (hcR q hq).trans e
    · rw [hs3.2 a nl]
      exact O2.up _ _ (hideAll_get _ (up _ _ e) hz)
  have On := O2.pick (N2 := [((l + 1) + 100, co), (b 7 + 100, fnK 2 [] (b 6 + 100) .none u1), (b 15 + 100, fnK 3 [("mycmp", (l + 1) + 100)] (b 14 + 100) (.ref (b 8 + 100)) u1), (nn + 100, nsO w.params t₁ (t₁ + 20) b st mbb), (C + 100, clsO t₁ b T nn C), (mbb + 100, memO (t₁ + 20) C)] ++ (codesL file (v 3) kz b ++ [(16, { cls := .none, data := .fields #[.int 4 0, .int 4 0, .ref (kz 2 + 100)] })])) [0, 4, 5, 21, 22, 23, 14, 15, 11, 12, 16, 17, 18, 19, 13] (by decide) (by kernel_rfl)
  obtain ⟨c', x', hc'⟩ := Ext.many (X := [16]) u ub (fun a ha ob e => by rw [List.mem_singleton.mp ha]; exact ⟨_, at3 (16, { cls := .none, data := .fields #[.int 4 0, .int 4 0, .ref (kz 2 + 100)] }) (by simp)⟩) (fun a ha => by rw [List.mem_singleton.mp ha]; exact c48)
    ([((l + 1) + 100, co), (b 7 + 100, fnK 2 [] (b 6 + 100) .none u1), (b 15 + 100, fnK 3 [("mycmp", (l + 1) + 100)] (b 14 + 100) (.ref (b 8 + 100)) u1), (nn + 100, nsO w.params t₁ (t₁ + 20) b st mbb), (C + 100, clsO t₁ b T nn C), (mbb + 100, memO (t₁ + 20) C)].map (·.1)) (fun a ha => by
      have nd := On.nd
      rw [List.map_append, List.nodup_append] at nd
      have nx := nd.2.2 a ha
      obtain ⟨q, hq, rfl⟩ := List.mem_map.mp ha
      cases e : h.get? q.1 with
      | none => rfl
      | some ob =>
        exfalso
        have e2 := On.nc q (List.mem_append_left _ hq)
        by_cases hz : q.1 ∈ H
        · rcases inH q.1 hz with z | z | z | ⟨q', hq', z⟩
          · rw [z, fresh (l + 100) (Nat.le_refl _)] at e; cases e
          · rw [z, fresh (l + 1 + 100) (by have : (l + 100 : Nat) ≤ l + 1 + 100 := by lia
                                           exact this)] at e; cases e
          · exact nx 16 (by simp) z
          · rw [← hbc] at hq'
            exact nx q'.1 (List.mem_map_of_mem (List.mem_append_left _ hq')) z.symm
        · rw [hideAll_get _ (up _ _ e) hz] at e2
          cases e2)
  refine k _ c' h3 _ x' ⟨hs, tkk, u1, u2, v, file, t₁, u1, v 3, t₁ + 20, l + 1, co, T, b, st, nn, C, mbb, hcd', rfl, fun q hq => ?_⟩ (at3 (16, { cls := .none, data := .fields #[.int 4 0, .int 4 0, .ref (kz 2 + 100)] }) (by simp))
  rcases List.mem_append.mp hq with hq | hq
  · exact x'.cc _ _ (hB q hq)
  · have a3 := at3 q (List.mem_append_left _ (List.mem_append_left _ hq))
    have cd : ∀ q ∈ codesL file (v 3) kz b, c'.get? q.1 = some q.2 := fun q hq => by
      rw [hbc] at hq; exact x'.cc _ _ (hcod.1 q hq)
    simp only [KB, List.mem_cons, List.not_mem_nil, or_false] at hq
    rcases hq with rfl | rfl | rfl | rfl | rfl | rfl | rfl | rfl
    · exact hc' _ (by simp) _ a3
    · exact hc' _ (by simp) _ a3
    · exact hc' _ (by simp) _ a3
    · exact cd _ (by simp [codesL])
    · exact cd _ (by simp [codesL])
    · exact hc' _ (by simp) _ a3
    · exact hc' _ (by simp) _ a3
    · exact hc' _ (by simp) _ a3
end
end Mine
namespace Mine
open PySem PySem.W PyProof.Rows
local macro_rules | `(tactic| walk_at "mem") => `(tactic| first | with_reducible exact List.mem_cons_self | (with_reducible refine List.mem_cons_of_mem _ ?_; walk_at "mem"))
local macro_rules | `(tactic| walk_at "memz") => `(tactic| ((simp only [List.map_cons, List.map_nil, List.zip_cons_cons, List.zip_nil_left, List.zip_nil_right, List.cons_append, List.nil_append]); walk_at "mem"))
local macro_rules | `(tactic| walk_at "put") => `(tactic| first | with_reducible exact PutP.head | (with_reducible apply PutP.tail; walk_at "put"))
local macro_rules | `(tactic| walk_at "rep") => `(tactic| first | with_reducible exact RepP.head | (with_reducible apply RepP.tail; walk_at "rep"))
local macro_rules | `(tactic| walk_at "froz") => `(tactic| first | with_reducible exact Froz.nil | (with_reducible apply Froz.lst; walk_at "mem"; walk_at "froz") | (with_reducible apply Froz.same; walk_at "froz"))
/-- a key of a text that is not too long -/
noncomputable def IsKeyB (c : Heap) (a : Addr) (v : Value) : Prop := ∃ X l, v = .ref X ∧ KeyAt c a X l ∧ l.length < 1000000
noncomputable def ltC (c : Heap) : Value → Value → Bool := fun x y => decide (cmpT (keyText c x) (keyText c y) < 0)
theorem ltC_wo (c : Heap) : HL.WO (ltC c) where
  tr := fun x y z h1 h2 => by
    simp only [ltC, decide_eq_false_iff_not] at h1 h2 ⊢
    exact cmpT_pre h1 h2
  as := fun x y h => by
    simp only [ltC, decide_eq_false_iff_not, decide_eq_true_eq] at h ⊢
    intro q
    have := cmpT_trans h q
    rw [cmpT_self] at this; lia
theorem ltC_up {c c' : Heap} {a : Addr} {hp : List Value} {p : Nat} (u : Up c c') (El : ∀ v ∈ hp, IsKeyB c a v) (H : HL.Hp (ltC c) p hp) : HL.Hp (ltC c') p hp := Hp_congr (fun x hx y hy => by
  obtain ⟨X, l, rfl, k1, _⟩ := El x hx
  obtain ⟨Y, m, rfl, k2, _⟩ := El y hy
  simp only [ltC, k1.text, k2.text, (k1.up u).text, (k2.up u).text]) H
/-- what the order of the replies asks of the top -/
structure IQ (c : Heap) (nm bn : List (Str × Value)) : Prop where
  hq : HQ c nm bn
  dn : IsDef c 159 (stm 24)
  dm : IsDef c 164 (stm 25)
  dk : IsDef c 21 (stm 1)
  ctk : IsCtk c
  dc : IsDef c 149 (stm 22)
  dpp : IsDef c 154 (stm 23)
  g1 : (("cmp_to_key" : Str), Value.ref 21) ∈ nm
  g2 : (("_law_compare" : Str), Value.ref 149) ∈ nm
  g3 : (("heapify" : Str), Value.ref 83) ∈ nm
  g4 : (("heappop" : Str), Value.ref 76) ∈ nm
  g5 : (("_law_popped" : Str), Value.ref 154) ∈ nm
  g7 : (("heappush" : Str), Value.ref 69) ∈ nm
  n1 : (("zip" : Str), Value.type "zip") ∈ bn
  n4 : (("object" : Str), Value.type "object") ∈ bn
  n5 : (("__build_class__" : Str), Value.builtin "__build_class__") ∈ bn
theorem IsCtk.up {c c' : Heap} (D : IsCtk c) (u : Up c c') : IsCtk c' := let ⟨a1, a2, a3, a4, a5, a6, o, ho, hd⟩ := D; ⟨a1, a2, a3, a4, a5, a6, o, u _ _ ho, hd⟩
section
variable {prog : Program} {w : World} {A : Around} {K c c' h h' : Heap} {G : Org} {pl : Str → Pl} {env cenv : Env} {ρ ρ' : Vars} {R R' : Led} {g : Array GenState} {d : Drawn} {t : Nat} {o : OsState} {nm bn : List (Str × Value)}
theorem IQ.up (N : IQ c nm bn) (u : Up c c') : IQ c' nm bn := ⟨N.hq.up u, N.dn.up u, N.dm.up u, N.dk.up u, N.ctk.up u, N.dc.up u, N.dpp.up u, N.g1, N.g2, N.g3, N.g4, N.g5, N.g7, N.n1, N.n4, N.n5⟩
theorem ord_C {a : Addr} (kc : KC w.params c a (.ref 149)) (GG : Glb c nm bn) (DC : IsDef c 149 (stm 22)) (bl : (("len" : Str), Value.builtin "len") ∈ bn) : Ord prog w 2 c (IsKeyB c a) (ltC c) where
  cmp := fun {A E h g d t o Q} x y rm u hx hy k => by
    obtain ⟨X, l1, rfl, k1, z1⟩ := hx
    obtain ⟨Y, l2, rfl, k2, z2⟩ := hy
    refine lt_op (n := 1) (r := cmpT l1 l2) (kc.up u) (GG.lim.keeps u) (k1.up u) (k2.up u) (DC.up u) (fun A' r => (law_compare_cl DC GG bl r z1 z2).mono u) rm fun h' t' u' => ?_
    have := k h' t' u'
    simp only [ltC] at this
    rw [k1.text, k2.text] at this
    exact this
/-- keys from their places -/
theorem keys_get {a : Addr} {ks : List Addr} {ls : List (List Nat)} (kx : KeysOf c a ks ls) {i : Nat} (hi : i < ls.length) : ks[i]? = some (ks.getD i 0) ∧ ls[i]? = some (ls.getD i []) ∧ KeyAt c a (ks.getD i 0) (ls.getD i []) := by
  have h1 : ks[i]? = some (ks.getD i 0) := by rw [List.getD_eq_getElem?_getD, List.getElem?_eq_getElem (by have := kx.1; lia)]; rfl
  have h2 : ls[i]? = some (ls.getD i []) := by rw [List.getD_eq_getElem?_getD, List.getElem?_eq_getElem hi]; rfl
  exact ⟨h1, h2, kx.2.2 i _ _ h1 h2⟩
theorem keys_el {a : Addr} {ks : List Addr} {ls : List (List Nat)} (kx : KeysOf c a ks ls) (hs : ∀ l ∈ ls, l.length < 1000000) {hx : List Nat} (hi : ∀ i ∈ hx, i < ls.length) : ∀ v ∈ hx.map (fun i => Value.ref (ks.getD i 0)), IsKeyB c a v := fun v hv => by
  obtain ⟨i, hm, rfl⟩ := List.mem_map.mp hv
  obtain ⟨_, e, k⟩ := keys_get kx (hi i hm)
  exact ⟨_, _, rfl, k, hs _ (List.mem_of_getElem? e)⟩
theorem keys_vals (ks : List Addr) : ks.map Value.ref = (List.range ks.length).map (fun i => Value.ref (ks.getD i 0)) := by
  refine List.ext_getElem (by simp) fun i h1 h2 => ?_
  simp at h1
  simp [List.getD_eq_getElem?_getD, h1]
/-- one taken off the heap: its place, and what is left -/
theorem pop_at {a : Addr} {ks : List Addr} {ls : List (List Nat)} (kx : KeysOf c a ks ls) {hx : List Nat} (hi : ∀ i ∈ hx, i < ls.length) (h1 : 1 ≤ hx.length) (H : HL.Hp (ltC c) 0 (hx.map fun i => Value.ref (ks.getD i 0))) :
    ∃ xs last j rest, hx.map (fun i => Value.ref (ks.getD i 0)) = xs ++ [last] ∧ hpopV xs last = .ref (ks.getD j 0) ∧ hx.Perm (j :: rest) ∧ hpopL (ltC c) xs last = rest.map (fun i => Value.ref (ks.getD i 0)) ∧ HL.Hp (ltC c) 0 (rest.map fun i => Value.ref (ks.getD i 0)) ∧ ∀ k ∈ hx, ¬ cmpT (ls.getD k []) (ls.getD j []) < 0 := by
  obtain ⟨xs, last, e⟩ : ∃ xs last, hx.map (fun i => Value.ref (ks.getD i 0)) = xs ++ [last] := snoc_of (by rw [List.length_map]; exact h1)
  have e0 := e
  rw [e] at H
  obtain ⟨H1, P1, M1⟩ := HL.hpop_law (ltC_wo c) H
  rw [← e] at P1 M1
  obtain ⟨l', pl, el⟩ := perm_map (fun i => Value.ref (ks.getD i 0)) P1 hx rfl
  cases l' with
  | nil => simp at el
  | cons j rest =>
    rw [List.map_cons, List.cons.injEq] at el
    refine ⟨xs, last, j, rest, e, el.1, pl.symm, el.2, el.2 ▸ H1, fun k hk => ?_⟩
    have := M1 _ (List.mem_map_of_mem (f := fun i => Value.ref (ks.getD i 0)) hk)
    rw [el.1] at this
    have kj := (keys_get kx (hi j (pl.mem_iff.mp (.head _)))).2.2
    have kk := (keys_get kx (hi k hk)).2.2
    simp only [ltC, kj.text, kk.text, decide_eq_false_iff_not] at this
    exact this
set_option pp.deepTerms false
set_option maxRecDepth 20000 in
set_option maxHeartbeats 1000000 in
theorem in_order_spec {hs : Nat → Int} {tkk : Nat → Nat} {u1 u2 : Nat} {vv : Nat → Nat} {file : Str} {ls : List (List Nat)} {v : Value} {Q E : Value → Shared → Prop} (N : IQ c nm bn) (hB : ∀ q ∈ B2 hs tkk file u1 u2 vv, c.get? q.1 = some q.2) (GG : Glb c nm bn) (u : Up c h) (c16 : c.get? 16 = none) (h16 : h.get? 16 = some { cls := .none, data := .fields #[] }) (room : Rm A 7)
    (dv : Den c v (.list (ls.map .str))) (hn : ls.length ≤ 5) (hsz : ∀ l ∈ ls, l.length < 1000000)
    (k : ∀ c' v h' t' kz b (res : List (List Nat)), Ext [16] c h c' h' → h'.get? 16 = some { cls := .none, data := .fields #[.int 4 0, .int 4 0, .ref (kz 2 + 100)] } → CodAt c' file (vv 3) kz b → Den c' v (.list (res.map .str)) → res.Perm ls → res.Pairwise (fun l m => ¬ cmpT m l < 0) → Q v ⟨h', g, d, t', o⟩) :
    wpAny (model prog w) A (call (.ref 159) [v]) Q E ⟨h, g, d, t, o⟩ := by
  refine enterP (ps := [.list (ls.map .str)]) ["replies"] ["key", "keys", "heap", "row", "reply"] [] N.dn u GG.lim room (.one dv) (by simp) (by simp) (fun _ _ _ _ _ _ _ _ => rfl) rfl (by kernel_rfl) fun env h₁ t₁ e1 e2 e3 rm F => ?_
  simp only [List.map_cons, List.map_nil, List.zip_cons_cons, List.zip_nil_right, List.cons_append, List.nil_append] at F
  have kk : GK env ["cmp_to_key", "_law_compare", "heapify", "_law_popped"] := .of e2 e3 (by rw [e1]; kernel_rfl)
  have hh := rm.hd
  generalize A.deeper env = B at rm hh ⊢
  refine wpAny_gen fun Qf hQf => ?_
  have up1 : Up h h₁ := F.ex.up
  have h16' := up1 _ _ h16
  refine wpAny_execs_cons (wpAny_Assign_Name (r_fn GG kk (by walk_at "mem") N.g1 N.dk (.refl _) F ?_))
  refine args_cons ((ev_glob GG kk (by walk_at "mem") N.g2).use (.refl _) F fun c1 v1 h1 t1 y1 F1 d1 => args_nil ⟨y1.cc.trans F1.up, ?_⟩)
  simp only [Den] at d1
  subst d1
  have c16' := y1.no c16 h16'
  refine ctk1 (N.up y1.cc).ctk (fun q hq => y1.cc _ _ (hB q hq)) (GG.up y1.cc) N.n4 N.n5 F1.up c16' (y1.up _ _ h16') rm.le (by obtain ⟨ob, _, e, _⟩ := N.dn.fn; exact Nat.le_trans (by decide) (Nat.le_of_lt (Heap.lt_size (F1.up _ _ (y1.cc _ _ e))))) fun a c2 h2 t2 kz b x2 kc cod h162 => ?_
  have F2 := F1.extX x2 ⟨_, _, y1.up _ _ h16', rfl⟩
  obtain ⟨G2, gf2, F2, back⟩ := F2.rebaseX h162 rfl
  have uc2 : Up c c2 := y1.cc.trans x2.cc
  refine F2.stn (x := "key") (p := .val (.ref a)) (by walk_at "put") (by simp [Den]) (.inl gf2) fun h3 t3 F3 => ?_
  refine (show wpAny (model prog w) B (execs _ env) _ _ _ from ?_)
  have N2 := N.up uc2
  have GG2 := GG.up uc2
  clear F F1 F2
  refine s_keys (n := 0) (ls := ls) kc GG2.lim rm.le (.refl c2) F3 (by walk_at "froz") e1 (by kernel_rfl) (by decide) (by walk_at "mem") (by walk_at "mem") (by lia) (fun ak => [("replies", some (.list (ls.map .str))), ("key", some (.val (.ref a))), ("keys", some (.val (.ref ak))), ("heap", none), ("row", none), ("reply", none)]) (fun at' => by walk_at "put") ?_ (hsw := swaps_is e1 (by kernel_rfl))
  intro c4 ak ks h4 t4 nak u4 F4 kx
  obtain ⟨c5, u5, F5⟩ := F4.told (ρ' := [("replies", some (.list (ls.map .str))), ("key", some (.val (.ref a))), ("keys", some (.list (ks.map fun X => PV.val (.ref X)))), ("heap", none), ("row", none), ("reply", none)]) (by walk_at "froz") gf2 (fun b hb => by simp at hb; exact hb ▸ nak)
  clear F3 F4
  have lks := kx.1
  refine s_asgN (by walk_at "froz") (evf_slice (ev_name (by walk_at "mem")) evo_none evo_none (by rw [List.length_map]; lia)) (by rw [slc_all]; intro p hp; obtain ⟨T, _, rfl⟩ := List.mem_map.mp hp; trivial) (.refl c5) F5 (fun ah => [("replies", some (.list (ls.map .str))), ("key", some (.val (.ref a))), ("keys", some (.list (ks.map fun X => PV.val (.ref X)))), ("heap", some (.val (.ref ah))), ("row", none), ("reply", none)]) (fun at' => by walk_at "put") ?_
  intro ah c6 h6 t6 nah u6 F6
  rw [slc_all] at F6
  have u26 : Up c2 c6 := (u4.trans u5).trans u6
  have N6 := N2.up u26
  have GG6 := GG2.up u26
  have kc6 := kc.up u26
  have kx6 := kx.up (u5.trans u6)
  have ehp : (ks.map fun X => PV.val (.ref X)) = (ks.map Value.ref).map .val := by rw [List.map_map]; rfl
  have rng : ∀ i ∈ List.range ks.length, i < ls.length := fun i hi => by have := List.mem_range.mp hi; lia
  have El6 : ∀ v ∈ ks.map Value.ref, IsKeyB c6 a v := by rw [keys_vals]; exact keys_el kx6 hsz rng
  refine s_exprR F6 (r_fn GG6 kk (by walk_at "mem") N6.g3 N6.hq.ify (.refl _) F6 (args_cons (F6.ld (x := "heap") (by walk_at "mem") fun v dv => args_nil ⟨F6.up, ?_⟩)))
  simp only [Den] at dv
  subst dv
  rw [show [(ah, ks.map fun X => PV.val (.ref X))] = [(ah, (ks.map Value.ref).map PV.val)] by rw [ehp]] at F6
  refine fr_ify (n := 2) (lt := ltC c6) (El := IsKeyB c6 a) N6.hq GG6 (ord_C kc6 GG6 N6.dc N6.hq.gl) F6 (by walk_at "mem") (by walk_at "rep") El6 (by rw [List.length_map]; lia) rm.le fun h7 t7 F7 => ⟨rfl, ?_⟩
  obtain ⟨hp1, hperm⟩ := HL.hify_law (ltC_wo c6) (ks.map Value.ref)
  obtain ⟨hx, px, ex⟩ := perm_map (fun i => Value.ref (ks.getD i 0)) hperm (List.range ks.length) (keys_vals ks)
  rw [ex] at F7 hp1
  refine s_asg (p := .list []) (ev_list evl_nil (by decide)) (.refl c6) F7 (by walk_at "put") (fun c8 h8 t8 u8 F8 => ?_) gf2
  have N8 := N6.up u8
  have GG8 := GG6.up u8
  have kc8 := kc6.up u8
  have kx8 := kx6.up u8
  have hi0 : ∀ i ∈ hx, i < ls.length := fun i hi => rng i (px.mem_iff.mp hi)
  have hp8 := ltC_up u8 (keys_el kx6 hsz hi0) hp1
  refine s_for (srcE_listT (fun l : List Nat => PV.str l) hh (ev_name (by walk_at "mem")))
    (fun y : (List Nat × List Nat) × Option PV => [("replies", some (.list (ls.map .str))), ("key", some (.val (.ref a))), ("keys", some (.list (ks.map fun X => PV.val (.ref X)))), ("heap", some (.val (.ref ah))), ("row", some (.list ((y.1.2.map fun j => ls.getD j []).map .str))), ("reply", y.2)])
    (fun y its => [("replies", some (.list (ls.map .str))), ("key", some (.val (.ref a))), ("keys", some (.list (ks.map fun X => PV.val (.ref X)))), ("heap", some (.val (.ref ah))), ("row", some (.list ((y.1.2.map fun j => ls.getD j []).map .str))), ("reply", some (its.headD (.int 0)))])
    (fun y => [(ah, (y.1.1.map fun i => Value.ref (ks.getD i 0)).map PV.val)]) (fun i y c' => (y.1.2 ++ y.1.1).Perm (List.range ks.length) ∧ y.1.2.length = i ∧ HL.Hp (ltC c') 0 (y.1.1.map fun i => Value.ref (ks.getD i 0)) ∧ y.1.2.Pairwise (fun j m => ¬ cmpT (ls.getD m []) (ls.getD j []) < 0) ∧ ∀ j ∈ y.1.2, ∀ m ∈ y.1.1, ¬ cmpT (ls.getD m []) (ls.getD j []) < 0)
    ((hx, []), none) rfl rfl F8 (.refl c8) (fun c' uc => ⟨px, rfl, ltC_up uc (keys_el kx8 hsz hi0) hp8, .nil, fun j hj => by cases hj⟩) (fun y its hm => by
      obtain ⟨a, _, rfl⟩ := List.mem_map.mp hm
      exact .cons (.tail (.tail (.tail (.tail (.tail .head))))) .nil) ?_ ?_ gf2
  · rintro i its G3 c9 ⟨⟨hx, out⟩, lv⟩ h9 t9 hi gf3 u9 ⟨hp, hlen, hH, hP, hA⟩ F9 back9
    dsimp only at hp hlen hH hP hA F9 ⊢
    refine wpAny_gen fun Qb hQb => ?_
    obtain ⟨l0, hl0, rfl⟩ : ∃ l, ls[i]? = some l ∧ its = [.str l] := by
      rw [List.getElem?_map] at hi
      cases e : ls[i]? with
      | none => rw [e] at hi; cases hi
      | some l => rw [e] at hi; exact ⟨l, rfl, by simpa using hi.symm⟩
    simp only [List.headD_cons] at F9
    have hil : i < ls.length := (List.getElem?_eq_some_iff.mp hl0).1
    have hlx : hx.length + i = ls.length := by have := hp.length_eq; rw [List.length_append, List.length_range] at this; lia
    have hil2 : ∀ j ∈ hx, j < ls.length := fun j hj => rng j (hp.mem_iff.mp (List.mem_append_right _ hj))
    have kx9 := kx8.up u9
    have N9 := N8.up u9
    have GG9 := GG8.up u9
    obtain ⟨xs, last, j, rest, exs, hV, pj, hL, hH2, hM⟩ := pop_at kx9 hil2 (by lia) hH
    have hjm : j ∈ hx := pj.mem_iff.mpr (.head _)
    obtain ⟨i1, i2, _⟩ := keys_get kx9 (hil2 j hjm)
    have lxs : xs.length + 1 = hx.length := by have := congrArg List.length exs; simp at this; lia
    have pl9 := F9.vals (a := ah) (xs := hx.map fun i => Value.ref (ks.getD i 0)) (by walk_at "mem")
    rw [exs] at pl9
    refine wpAny_execs_cons (wpAny_Assign_Name (wpAny_BinOp (F9.ld (x := "row") (by walk_at "mem") fun v0 dv0 => ?_)))
    refine r_fn GG9 kk (by walk_at "mem") N9.g5 N9.dpp (.refl _) F9 (args_cons (F9.ld (x := "heap") (by walk_at "mem") fun va dva => args_cons (F9.ld (x := "keys") (by walk_at "mem") fun vk dvk => args_cons (F9.ld (x := "replies") (by walk_at "mem") fun vr dvr => args_nil ⟨F9.up, ?_⟩))))
    simp only [Den] at dva
    subst dva
    refine popped_spec (n := 2) (lt := ltC c9) (El := IsKeyB c9 a) N9.hq N9.dpp GG9 N9.g4 N9.n1 (ord_C (kc8.up u9) GG9 N9.dc N9.hq.gl) F9.up (F9.nolst (by walk_at "mem")) pl9 (exs ▸ keys_el kx9 hsz hil2) (by lia) rm dvk dvr kx9 (by lia) hV i1 i2 fun c10 v10 h10 t10 x10 _ d10 pl10 => ?_
    rw [hL] at pl10
    have F10 := F9.turn x10 (R' := [(ah, (rest.map fun i => Value.ref (ks.getD i 0)).map PV.val)]) (by walk_at "rep") pl10 DenL.ofVals
    have hol : out.length ≤ 5 := by lia
    refine op_ladd (by simp only [List.length_map, List.length_singleton]; lia) c10 h10 v0 (.ref v10) F10.up (Den.up x10.cc _ dv0) d10 _ _ _ _ _ _ fun c11 v11 h11 t11 x11 d11 => ?_
    refine (F10.ext x11).stn (x := "row") (p := .list (((out ++ [j]).map fun j => ls.getD j []).map .str)) (by walk_at "put") ?_ (.inl gf3) fun h12 t12 F12 => ?_
    · have e : ((out.map fun j => ls.getD j []).map PV.str) ++ [PV.str (ls.getD j [])] = ((out ++ [j]).map fun j => ls.getD j []).map .str := by simp
      rw [← e]; exact d11
    · have pr : ∀ m ∈ rest, m ∈ hx := fun m hm => pj.mem_iff.mpr (.tail _ hm)
      refine s_nil (hQb _ _ ⟨c11, ((rest, out ++ [j]), some (.str l0)), h12, t12, ⟨?_, ?_, ?_, ?_, ?_⟩, F12, rfl⟩)
      · rw [List.append_assoc]
        exact ((pj.symm.append_left out)).trans hp
      · rw [List.length_append, hlen]; rfl
      · exact ltC_up (x10.cc.trans x11.cc) (keys_el kx9 hsz fun m hm => hil2 m (pr m hm)) hH2
      · rw [List.pairwise_append]
        refine ⟨hP, by simp, fun x hx' y hy => ?_⟩
        rw [List.mem_singleton.mp hy]; exact hA x hx' j hjm
      · intro x hx' m hm
        rcases List.mem_append.mp hx' with hx' | hx'
        · exact hA x hx' m (pr m hm)
        · rw [List.mem_singleton.mp hx']; exact hM m (pr m hm)
  · rintro c9 ⟨⟨hx, out⟩, lv⟩ h9 t9 u9 ⟨hp, hlen, _, hP, _⟩ F9
    dsimp only at hp hlen hP F9 ⊢
    have hx0 : hx = [] := by
      have := hp.length_eq
      rw [List.length_append, List.length_range, hlen, List.length_map] at this
      exact List.length_eq_zero_iff.mp (by lia)
    subst hx0
    rw [List.append_nil] at hp
    refine s_ret (ev_name (by walk_at "mem")) (.refl c9) F9 fun c' v h' t' x F' dv => ?_
    obtain ⟨b1, _, b3⟩ := back _ _ _ _ F'
    refine hQf _ _ (k c' v h' t' kz b _ b1.ex b3 (cod.up (((u26.trans u8).trans u9).trans x.cc)) dv ?_ (List.pairwise_map.mpr hP))
    have e : ls = (List.range ks.length).map fun j => ls.getD j [] := by
      refine List.ext_getElem (by simp [lks]) fun i h1 h2 => ?_
      simp [List.getD_eq_getElem?_getD, h1]
    conv => rhs; rw [e]
    exact hp.map _
end
end Mine
namespace Mine
open PySem PySem.W PyProof.Rows
local macro_rules | `(tactic| walk_at "mem") => `(tactic| first | with_reducible exact List.mem_cons_self | (with_reducible refine List.mem_cons_of_mem _ ?_; walk_at "mem"))
local macro_rules | `(tactic| walk_at "put") => `(tactic| first | with_reducible exact PutP.head | (with_reducible apply PutP.tail; walk_at "put"))
local macro_rules | `(tactic| walk_at "rep") => `(tactic| first | with_reducible exact RepP.head | (with_reducible apply RepP.tail; walk_at "rep"))
local macro_rules | `(tactic| walk_at "froz") => `(tactic| first | with_reducible exact Froz.nil | (with_reducible apply Froz.lst; walk_at "mem"; walk_at "froz") | (with_reducible apply Froz.same; walk_at "froz"))
/-- the numbers' keys, by their places -/
abbrev refsOf (ks : List Addr) (hx : List Nat) : List Value := hx.map fun i => Value.ref (ks.getD i 0)
theorem ltC_cong {c c' : Heap} {a : Addr} {ks : List Addr} {ls : List (List Nat)} {hx : List Nat} {p : Nat} (k1 : KeysOf c a ks ls) (k2 : KeysOf c' a ks ls) (hi : ∀ i ∈ hx, i < ls.length) (H : HL.Hp (ltC c) p (refsOf ks hx)) : HL.Hp (ltC c') p (refsOf ks hx) := Hp_congr (fun x hx y hy => by
  obtain ⟨i, mi, rfl⟩ := List.mem_map.mp hx
  obtain ⟨j, mj, rfl⟩ := List.mem_map.mp hy
  have a1 := (keys_get k1 (hi i mi)).2.2
  have a2 := (keys_get k1 (hi j mj)).2.2
  have b1 := (keys_get k2 (hi i mi)).2.2
  have b2 := (keys_get k2 (hi j mj)).2.2
  simp only [ltC, a1.text, a2.text, b1.text, b2.text]) H
section
variable {prog : Program} {w : World} {A : Around} {K c c' h h' : Heap} {G : Org} {pl : Str → Pl} {env cenv : Env} {ρ ρ' : Vars} {R R' : Led} {g : Array GenState} {d : Drawn} {t : Nat} {o : OsState} {nm bn : List (Str × Value)}
theorem Fr.keepD {x : Addr} {ps : List PV} {as : List Addr} (F : Fr G c env ρ R h) (m : (x, ps) ∈ R) (ha : x ∈ as) : Den (keepAt c h as) (.ref x) (.list ps) := by
  obtain ⟨xs, ⟨n, hl⟩, dl⟩ := F.lst m
  simp only [Den]
  exact ⟨x, xs, rfl, ⟨n, keepAt_at ha hl⟩, DenL.up (keepAt_up F.up) _ dl⟩
theorem fr_popped {a ah ak am : Addr} {ks : List Addr} {ls : List (List Nat)} {hx : List Nat} {Q E : Value → Shared → Prop} (N : IQ c nm bn) (GG : Glb c nm bn) (kc : KC w.params c a (.ref 149))
    (F : Fr G c env ρ [(ah, (refsOf ks hx).map PV.val), (ak, ks.map fun X => .val (.ref X)), (am, ls.map .str)] h) (kx : KeysOf c a ks ls) (hsz : ∀ l ∈ ls, l.length < 1000000) (hi : ∀ i ∈ hx, i < ls.length) (h1 : 1 ≤ hx.length) (hn : hx.length < 1000) (hz : ls.length < 1000) (H : HL.Hp (ltC c) 0 (refsOf ks hx)) (room : Rm A 6)
    (k : ∀ c' D h' t' j rest, Up c c' → Fr G c' env ρ [(ah, (refsOf ks rest).map PV.val), (ak, ks.map fun X => .val (.ref X)), (am, ls.map .str)] h' → Den c' (.ref D) (.list [.str (ls.getD j [])]) → hx.Perm (j :: rest) → HL.Hp (ltC c') 0 (refsOf ks rest) → Q (.ref D) ⟨h', g, d, t', o⟩) :
    wpAny (model prog w) A (call (.ref 154) [.ref ah, .ref ak, .ref am]) Q E ⟨h, g, d, t, o⟩ := by
  have uC : Up c (keepAt c h [ak, am]) := keepAt_up F.up
  have nd : [ah, ak, am].Nodup := let ⟨_, FP⟩ := F; FP.n4
  have nc : ∀ x ∈ [ak, am], c.get? x = none := fun x hx => by
    simp only [List.mem_cons, List.not_mem_nil, or_false] at hx
    rcases hx with rfl | rfl
    · exact F.nolst (by walk_at "mem")
    · exact F.nolst (by walk_at "mem")
  have live : ∀ x ∈ [ak, am], h.get? x ≠ none := fun x hx q => by
    simp only [List.mem_cons, List.not_mem_nil, or_false] at hx
    rcases hx with rfl | rfl
    · obtain ⟨_, ⟨n, e⟩, _⟩ := F.lst (a := x) (ps := ks.map fun X => PV.val (.ref X)) (by walk_at "mem"); rw [q] at e; cases e
    · obtain ⟨_, ⟨n, e⟩, _⟩ := F.lst (a := x) (ps := ls.map PV.str) (by walk_at "mem"); rw [q] at e; cases e
  have na : (keepAt c h [ak, am]).get? ah = none := by
    cases e : (keepAt c h [ak, am]).get? ah with
    | none => rfl
    | some ob =>
      rcases keepAt_old F.up e with q | q
      · exact absurd q (List.nodup_cons.mp nd).1
      · rw [F.nolst (a := ah) (ps := (refsOf ks hx).map PV.val) (by walk_at "mem")] at q; cases q
  have kxC := kx.up uC
  have HC := ltC_up uC (keys_el kx hsz hi) H
  obtain ⟨xs, last, j, rest, exs, hV, pj, hL, hH2, -⟩ := pop_at kxC hi h1 HC
  have hjm : j ∈ hx := pj.mem_iff.mpr (.head _)
  obtain ⟨i1, i2, _⟩ := keys_get kxC (hi j hjm)
  have lxs : xs.length + 1 = hx.length := by have := congrArg List.length exs; simp at this; lia
  have plh := F.vals (a := ah) (xs := refsOf ks hx) (by walk_at "mem")
  have ex2 : refsOf ks hx = xs ++ [last] := exs
  rw [ex2] at plh
  refine popped_spec (n := 2) (lt := ltC (keepAt c h [ak, am])) (El := IsKeyB (keepAt c h [ak, am]) a) (N.up uC).hq (N.up uC).dpp (GG.up uC) N.g4 N.n1 (ord_C (kc.up uC) (GG.up uC) (N.up uC).dc N.hq.gl) keepAt_sub na plh (exs ▸ keys_el kxC hsz hi) (by lia) room (F.keepD (by walk_at "mem") (by simp)) (F.keepD (by walk_at "mem") (by simp)) kxC (by have := kx.1; lia) hV i1 i2 fun c1 D h1' t1 x1 nD dv pl1 => ?_
  rw [hL] at pl1
  have x2 := thawX F.up nc x1
  have F2 := F.turn x2 (R' := [(ah, (refsOf ks rest).map PV.val), (ak, ks.map fun X => .val (.ref X)), (am, ls.map .str)]) (by walk_at "rep") pl1 DenL.ofVals
  have dv2 : Den (hideAll c1 [ak, am]) (.ref D) (.list [.str (ls.getD j [])]) := by
    simp only [Den] at dv ⊢
    obtain ⟨a', vs, e, hl, dl⟩ := dv
    cases e
    exact ⟨D, vs, rfl, hl.at fun ob e => hideAll_get _ e fun q => live D q nD, DenL.flat (fun p hp => by rw [List.mem_singleton.mp hp]; trivial) dl⟩
  exact k _ D h1' t1 j rest x2.cc F2 dv2 pj (ltC_cong kxC (kx.up x2.cc) (fun m hm => hi m (pj.mem_iff.mpr (.tail _ hm))) hH2)
/-- l.append(e), where e writes others of the frame's lists -/
theorem s_append2 {a : Addr} {ps : List PV} {x : Str} {ap np px pos : Pos} {e : Expr} {rest : List Stmt} {plm : Sem Bool} {Q : Flow → Shared → Prop} {E : Value → Shared → Prop} (m : (x, some (.val (.ref a))) ∈ ρ) (mr : (a, ps) ∈ R) (F : Fr G c env ρ R h) (hz : ps.length < 1000000)
    (el : wpAny (model prog w) A (eval e env) (fun v s₂ => ∃ c' h' t' p R1 R', s₂ = ⟨h', g, d, t', o⟩ ∧ Fr G c' env ρ R1 h' ∧ (a, ps) ∈ R1 ∧ Den c' v p ∧ RepP a (ps ++ [p]) R1 R' ∧ ∀ h'' t'', Fr G c' env ρ R' h'' → wpAny (model prog w) A (execs rest env) Q E ⟨h'', g, d, t'', o⟩) E ⟨h, g, d, t, o⟩)
    (hs : swapsWith (.Call (.Attribute (.Name x np) "append" ap) [e] [] px) none pos.line env = pure false := by rfl)
    (he : eval (.Call (.Attribute (.Name x np) "append" ap) [e] [] px) env = (do let ov ← eval (.Name x np) env; standAt ap.atName; let (f, first) ← holding [ov] (getMethod ov "append" plm); callWith px f first (backTo px (starEach [e] env)) []) := by rfl)
    (hs2 : starEach [e] env = [(false, eval e env)] := by rfl) :
    wpAny (model prog w) A (execs (.Expr (.Call (.Attribute (.Name x np) "append" ap) [e] [] px) pos :: rest) env) Q E ⟨h, g, d, t, o⟩ := by
  refine wpAny_execs_cons (wpAny_Expr (wpAny_mono (Q := fun v s' => v = .none ∧ wpAny (model prog w) A (execs rest env) Q E s') ?_ (fun v s' q => by obtain ⟨rfl, q⟩ := q; exact q) fun _ _ q => q) (by unfold interactive; rw [F.fn]; rfl) hs)
  refine r_m1 (F.ld m fun v dv => ?_) he hs2
  simp only [Den] at dv
  subst dv
  obtain ⟨xs, hl, _⟩ := F.lst mr
  refine ⟨"list.append", has_append hl, wpAny_mono el (fun v s₂ q => ?_) fun _ _ q => q⟩
  obtain ⟨c', h', t', p, R1, R', rfl, F', mr', dv, U, k⟩ := q
  exact F'.append mr' U dv hz fun h2 F2 => ⟨rfl, k h2 t' F2⟩
/-- a call by a global name -/
theorem r_fnO {f : Addr} {ob : Obj} {fd : FuncData} {gs : List Str} {x : Str} {e : Expr} {es : List Expr} {px pos : Pos} {Q E : Value → Shared → Prop} (GG : Glb K nm bn) (kk : GK env gs) (hx : x ∈ gs) (hv : (x, Value.ref f) ∈ nm) (h1 : K.get? f = some ob) (h2 : ob.data = .func fd) (u : Up K c) (F : Fr G c env ρ R h)
    (k : wpAny (model prog w) A (spliced (backTo pos (starEach (e :: es) env))) (fun vs s₁ => Up K s₁.heap ∧ wpAny (model prog w) A (call (.ref f) vs) Q E s₁) E ⟨h, g, d, t, o⟩)
    (he : starEach (e :: es) env = (false, eval e env) :: starEach es env := by rfl)
    (he' : eval (.Call (.Name x px) (e :: es) [] pos) env = (do callWith pos (← eval (.Name x px) env) [] (backTo pos (starEach (e :: es) env)) (backToKw pos (keywordEach [] env))) := by rfl) :
    wpAny (model prog w) A (eval (.Call (.Name x px) (e :: es) [] pos) env) Q E ⟨h, g, d, t, o⟩ := by
  obtain ⟨mg, mb, hg, _, hn, _⟩ := GG.ex
  refine Call_ (Calls.Name_function_global F.fn (kk.k x hx).1 (Calls.loadGlobal_global (by rw [kk.g]; exact hg.keeps (u.trans F.up)) (hn _ hv) ?_) (kk.k x hx).2) he'
  exact callWith_def h2 (wpAny_mono k (fun vs s₁ q => ⟨q.1 _ _ h1, q.2⟩) fun _ _ q => q) he
end
end Mine
namespace Mine
open PySem PySem.W PyProof.Rows
local macro_rules | `(tactic| walk_at "mem") => `(tactic| first | with_reducible exact List.mem_cons_self | (with_reducible refine List.mem_cons_of_mem _ ?_; walk_at "mem"))
local macro_rules | `(tactic| walk_at "put") => `(tactic| first | with_reducible exact PutP.head | (with_reducible apply PutP.tail; walk_at "put"))
local macro_rules | `(tactic| walk_at "rep") => `(tactic| first | with_reducible exact RepP.head | (with_reducible apply RepP.tail; walk_at "rep"))
local macro_rules | `(tactic| walk_at "froz") => `(tactic| first | with_reducible exact Froz.nil | (with_reducible apply Froz.lst; walk_at "mem"; walk_at "froz") | (with_reducible apply Froz.same; walk_at "froz"))
theorem reply_len {v : Nat} (h : v < fib 79) : (replyL v).length < 1000000 := by
  obtain ⟨-, hm, -, -⟩ := num_ok h
  unfold replyL textOf
  simp only [List.length_cons, List.length_append, (cells_len (places v) _).1, List.length_nil]
  lia
theorem replies_len {ns : List Nat} (h : ∀ v ∈ ns, v < fib 79) : ∀ l ∈ ns.map replyL, l.length < 1000000 := fun l hl => by
  obtain ⟨v, hv, rfl⟩ := List.mem_map.mp hl
  exact reply_len (h v hv)
theorem getD_reply (ns : List Nat) {i : Nat} (h : i < ns.length) : (ns.map replyL).getD i [] = replyL (ns.getD i 0) := by
  rw [List.getD_eq_getElem?_getD, List.getD_eq_getElem?_getD, List.getElem?_map, List.getElem?_eq_getElem h]; rfl
theorem refs_snoc {ks : List Addr} {rest : List Nat} {X : Addr} (h : ∀ i ∈ rest, i < ks.length) : Value.ref X :: refsOf ks rest = refsOf (ks ++ [X]) (ks.length :: rest) := by
  show _ :: _ = Value.ref ((ks ++ [X]).getD ks.length 0) :: rest.map _
  congr 1
  · rw [List.getD_eq_getElem?_getD]; simp
  · refine List.map_congr_left fun k hk => ?_
    have := h k hk
    rw [List.getD_eq_getElem?_getD, List.getD_eq_getElem?_getD, List.getElem?_append_left (by lia)]
theorem vals_snoc {ns rest : List Nat} {v : Nat} (h : ∀ i ∈ rest, i < ns.length) : v :: rest.map (fun i => ns.getD i 0) = (ns.length :: rest).map (fun i => (ns ++ [v]).getD i 0) := by
  rw [List.map_cons]
  congr 1
  · rw [List.getD_eq_getElem?_getD]; simp
  · refine List.map_congr_left fun k hk => ?_
    have := h k hk
    rw [List.getD_eq_getElem?_getD, List.getD_eq_getElem?_getD, List.getElem?_append_left (by lia)]
/-- what stands between the turns: the numbers made, and the places of what lies on the heap -/
structure Mlt (n0 : List Nat) (ns hx : List Nat) : Prop where
  lt : ∀ v ∈ ns, v < fib 79
  hi : ∀ i ∈ hx, i < ns.length
  ln : ns.length + hx.length = 2 * n0.length
  ls : ns.length - 1 ∈ hx
  me : Melt n0 (hx.map fun i => ns.getD i 0)
theorem Mlt.step {n0 ns hx rest hx' : List Nat} {i j : Nat} (M : Mlt n0 ns hx) (p : hx.Perm (i :: j :: rest)) (p' : hx'.Perm (ns.length :: rest)) : Mlt n0 (ns ++ [prodN (ns.getD i 0) (ns.getD j 0)]) hx' ∧ ns.getD i 0 < fib 79 ∧ ns.getD j 0 < fib 79 ∧ prodN (ns.getD i 0) (ns.getD j 0) < fib 79 := by
  have me := M.me.perm (p.map fun i => ns.getD i 0)
  rw [List.map_cons, List.map_cons] at me
  have mi : i ∈ hx := p.mem_iff.mpr (.head _)
  have mj : j ∈ hx := p.mem_iff.mpr (.tail _ (.head _))
  have mr : ∀ m ∈ rest, m < ns.length := fun m hm => M.hi m (p.mem_iff.mpr (.tail _ (.tail _ hm)))
  have gl : ∀ i ∈ hx, ns.getD i 0 < fib 79 := fun i hi => M.lt _ (by rw [List.getD_eq_getElem?_getD, List.getElem?_eq_getElem (M.hi i hi)]; exact List.getElem_mem _)
  have hp : prodN (ns.getD i 0) (ns.getD j 0) < fib 79 := fib_le_of me.prodLt.1 (by decide)
  have st := me.step
  have l1 := p.length_eq
  have l2 := p'.length_eq
  simp only [List.length_cons] at l1 l2
  have ln := M.ln
  refine ⟨⟨fun v hv => ?_, fun m hm => ?_, ?_, ?_, ?_⟩, gl i mi, gl j mj, hp⟩
  · rcases List.mem_append.mp hv with hv | hv
    · exact M.lt v hv
    · rw [List.mem_singleton.mp hv]; exact hp
  · rw [List.length_append, List.length_singleton]
    rcases List.mem_cons.mp (p'.mem_iff.mp hm) with e | hm
    · lia
    · have := mr m hm; lia
  · rw [List.length_append, List.length_singleton]; lia
  · rw [List.length_append, List.length_singleton, Nat.add_sub_cancel]
    exact p'.mem_iff.mpr (.head _)
  · rw [vals_snoc mr] at st
    exact st.perm (p'.map _).symm
theorem Mlt.last {n0 ns hx : List Nat} (M : Mlt n0 ns hx) (h : hx.length = 1) : ns.getD (ns.length - 1) 0 = (vprod n0).1 := by
  have hl := M.ls
  match hx, h with
  | [i], _ =>
    rw [List.mem_singleton.mp hl]
    exact M.me.one
section
variable {prog : Program} {w : World} {A : Around} {K c c' h h' : Heap} {G : Org} {pl : Str → Pl} {env cenv : Env} {ρ ρ' : Vars} {R R' : Led} {g : Array GenState} {d : Drawn} {t : Nat} {o : OsState} {nm bn : List (Str × Value)}
/-- reduce over the product, two replies -/
theorem reduce2 {T M : Addr} {m n : Nat} (O : OQ K nm bn T M) (GG : Glb K nm bn) (room : Rm A 6) (hm : m < fib 79) (hn : n < fib 79) (hp : prodN m n < fib 79) : Cl prog w A K (.ref 30) [.val (.ref 142), .list [.str (replyL m), .str (replyL n)]] (.str (replyL (prodN m n))) := by
  obtain ⟨oT, nT, hT1, hT2⟩ := O.tM
  have x := fun (B : Around) (rB : Rm B 4) => law_product_cl (prog := prog) (w := w) (A := B) O GG rB hm hn hp
  clear hm hn hp
  generalize replyL m = r1 at *
  generalize replyL n = r2 at *
  generalize replyL (prodN m n) = r3 at *
  exact reduce_cl (T := T) (M := M) (st := stm 21) (p0 := .str r1) (ps := [.str r2]) (kk := 4) (fun i => if i = 0 then .str r1 else .str r3) O.dr hT1 hT2 GG O.gm O.bi O.be O.dd room.le rfl (fun B' rB n p hp => by
    cases n with
    | zero => simp at hp; subst hp; exact x B' rB
    | succ n => simp at hp)
set_option pp.deepTerms false
set_option maxRecDepth 20000 in
set_option maxHeartbeats 2000000 in
theorem melted_spec {T M : Addr} {hs : Nat → Int} {tkk : Nat → Nat} {u1 u2 : Nat} {vv kz bo : Nat → Nat} {file : Str} {n0 : List Nat} {v : Value} {Q E : Value → Shared → Prop} (N : IQ c nm bn) (O : OQ c nm bn T M) (hB : ∀ q ∈ B2 hs tkk file u1 u2 vv, c.get? q.1 = some q.2) (GG : Glb c nm bn) (u : Up c h) (c16 : c.get? 16 = none)
    (cod : CodAt c file (vv 3) kz bo) (h16 : h.get? 16 = some { cls := .none, data := .fields #[.int 4 0, .int 4 0, .ref (kz 2 + 100)] }) (room : Rm A 7)
    (dv : Den c v (.list ((n0.map replyL).map .str))) (hn : 1 ≤ n0.length ∧ n0.length ≤ 4) (hv : ∀ v ∈ n0, 1 ≤ v ∧ v ≤ 88)
    (k : ∀ c' v h' t', Ext [16] c h c' h' → h'.get? 16 = some { cls := .none, data := .fields #[.int 4 0, .int 4 0, .ref (kz 2 + 100)] } → Den c' v (.str (replyL (vprod n0).1)) → Q v ⟨h', g, d, t', o⟩) :
    wpAny (model prog w) A (call (.ref 164) [v]) Q E ⟨h, g, d, t, o⟩ := by
  have M0 : Mlt n0 n0 (List.range n0.length) := ⟨fun v hv' => fib_le_of (by have := hv v hv'; lia) (by decide), fun i hi => List.mem_range.mp hi, by rw [List.length_range]; lia, List.mem_range.mpr (by lia), by
    have e : (List.range n0.length).map (fun i => n0.getD i 0) = n0 := by
      refine List.ext_getElem (by simp) fun i h1 h2 => ?_
      simp [List.getD_eq_getElem?_getD, h2]
    rw [e]; exact Melt.start hv hn.2⟩
  have lnm : (n0.map replyL).length = n0.length := List.length_map _
  refine enterP (ps := [.list ((n0.map replyL).map .str)]) ["replies"] ["key", "made", "keys", "heap"] [] N.dm u GG.lim room (.one dv) (by simp) (by simp) (fun _ _ _ _ _ _ _ _ => rfl) rfl (by kernel_rfl) fun env h₁ t₁ e1 e2 e3 rm F => ?_
  simp only [List.map_cons, List.map_nil, List.zip_cons_cons, List.zip_nil_right, List.cons_append, List.nil_append] at F
  have kk : GK env ["cmp_to_key", "_law_compare", "heapify", "len", "reduce", "_law_product", "_law_popped", "heappush"] := .of e2 e3 (by rw [e1]; kernel_rfl)
  have hh := rm.hd
  generalize A.deeper env = B at rm hh ⊢
  refine wpAny_gen fun Qf hQf => ?_
  have up1 : Up h h₁ := F.ex.up
  have h16' := up1 _ _ h16
  refine wpAny_execs_cons (wpAny_Assign_Name (r_fn GG kk (by walk_at "mem") N.g1 N.dk (.refl _) F ?_))
  refine args_cons ((ev_glob GG kk (by walk_at "mem") N.g2).use (.refl _) F fun c1 v1 h1 t1 y1 F1 d1 => args_nil ⟨y1.cc.trans F1.up, ?_⟩)
  simp only [Den] at d1
  subst d1
  have c16' := y1.no c16 h16'
  refine ctk2 (N.up y1.cc).ctk (fun q hq => y1.cc _ _ (hB q hq)) (GG.up y1.cc) N.n4 N.n5 F1.up c16' (cod.up y1.cc) (y1.up _ _ h16') rm.le (by obtain ⟨ob, _, e, _⟩ := N.dn.fn; exact Nat.le_trans (by decide) (Nat.le_of_lt (Heap.lt_size (F1.up _ _ (y1.cc _ _ e))))) fun a c2 h2 t2 x2 kc h162 => ?_
  have F2 := F1.extX x2 ⟨_, _, y1.up _ _ h16', rfl⟩
  obtain ⟨G2, gf2, F2, back⟩ := F2.rebaseX h162 rfl
  have uc2 : Up c c2 := y1.cc.trans x2.cc
  refine F2.stn (x := "key") (p := .val (.ref a)) (by walk_at "put") (by simp [Den]) (.inl gf2) fun h3 t3 F3 => ?_
  refine (show wpAny (model prog w) B (execs _ env) _ _ _ from ?_)
  have N2 := N.up uc2
  have O2 := O.up uc2
  have GG2 := GG.up uc2
  clear F F1 F2
  generalize hls : n0.map replyL = ls at *
  have lpv : (ls.map PV.str).length = ls.length := List.length_map _
  have nfl : ∀ p ∈ ls.map PV.str, p.flat := fun p hp => by obtain ⟨T, _, rfl⟩ := List.mem_map.mp hp; trivial
  refine s_asgN (by walk_at "froz") (evf_slice (ev_name (by walk_at "mem")) evo_none evo_none (by lia)) (by rw [slc_all]; exact nfl) (.refl c2) F3 (fun am => [("replies", some (.list (ls.map .str))), ("key", some (.val (.ref a))), ("made", some (.val (.ref am))), ("keys", none), ("heap", none)]) (fun at' => by walk_at "put") ?_
  intro am c4 h4 t4 nam u4 F4
  rw [slc_all] at F4
  refine s_keys (n := 0) (ls := ls) (kc.up u4) (GG2.up u4).lim rm.le (.refl c4) F4 (by walk_at "froz") e1 (by kernel_rfl) (by decide) (by walk_at "mem") (by walk_at "mem") (by lia) (fun ak => [("replies", some (.list (ls.map .str))), ("key", some (.val (.ref a))), ("made", some (.val (.ref am))), ("keys", some (.val (.ref ak))), ("heap", none)]) (fun at' => by walk_at "put") ?_ (hsw := swaps_is e1 (by kernel_rfl))
  intro c5 ak ks h5 t5 nak u5 F5 kx
  have lks := kx.1
  refine s_asgN (by walk_at "froz") (evf_slice (ev_name (by walk_at "mem")) evo_none evo_none (by rw [List.length_map]; lia)) (by rw [slc_all]; intro p hp; obtain ⟨T, _, rfl⟩ := List.mem_map.mp hp; trivial) (.refl c5) F5 (fun ah => [("replies", some (.list (ls.map .str))), ("key", some (.val (.ref a))), ("made", some (.val (.ref am))), ("keys", some (.val (.ref ak))), ("heap", some (.val (.ref ah)))]) (fun at' => by walk_at "put") ?_
  intro ah c6 h6 t6 nah u6 F6
  rw [slc_all] at F6
  have u26 : Up c2 c6 := (u4.trans u5).trans u6
  have N6 := N2.up u26
  have O6 := O2.up u26
  have GG6 := GG2.up u26
  have kc6 := kc.up u26
  have kx6 := kx.up u6
  have ehp : (ks.map fun X => PV.val (.ref X)) = (ks.map Value.ref).map .val := by rw [List.map_map]; rfl
  have rng : ∀ i ∈ List.range ks.length, i < ls.length := fun i hi => by have := List.mem_range.mp hi; lia
  have hsz0 : ∀ l ∈ ls, l.length < 1000000 := by rw [← hls]; exact replies_len M0.lt
  refine s_exprR F6 (r_fn GG6 kk (by walk_at "mem") N6.g3 N6.hq.ify (.refl _) F6 (args_cons (F6.ld (x := "heap") (by walk_at "mem") fun v dv => args_nil ⟨F6.up, ?_⟩)))
  simp only [Den] at dv
  subst dv
  have eR := congrArg (fun z => [(ah, z), (ak, ks.map fun X => PV.val (.ref X)), (am, ls.map PV.str)]) ehp
  rw [eR] at F6
  refine fr_ify (n := 2) (lt := ltC c6) (El := IsKeyB c6 a) N6.hq GG6 (ord_C kc6 GG6 N6.dc N6.hq.gl) F6 (by walk_at "mem") (by walk_at "rep") (by rw [keys_vals]; exact keys_el kx6 hsz0 rng) (by rw [List.length_map]; lia) rm.le fun h7 t7 F7 => ⟨rfl, ?_⟩
  obtain ⟨hp1, hperm⟩ := HL.hify_law (ltC_wo c6) (ks.map Value.ref)
  obtain ⟨hx0, px, ex⟩ := perm_map (fun i => Value.ref (ks.getD i 0)) hperm (List.range ks.length) (keys_vals ks)
  have hGn : ∀ b ∈ [ah, ak, am], G2.h.get? b = none := fun b hb => by
    simp only [List.mem_cons, List.not_mem_nil, or_false] at hb
    rcases hb with rfl | rfl | rfl
    · exact nah
    · exact nak
    · exact nam
  refine s_while (c := c6) (fun m c' h' => ∃ (ks : List Addr) (ns hx : List Nat), Fr G2 c' env [("replies", some (.list (ls.map .str))), ("key", some (.val (.ref a))), ("made", some (.val (.ref am))), ("keys", some (.val (.ref ak))), ("heap", some (.val (.ref ah)))]
      [(ah, (refsOf ks hx).map .val), (ak, ks.map fun X => .val (.ref X)), (am, (ns.map replyL).map .str)] h' ∧ KeysOf c' a ks (ns.map replyL) ∧ Mlt n0 ns hx ∧ HL.Hp (ltC c') 0 (refsOf ks hx) ∧ hx.length = m)
    (fun c' h' => ∃ (ks : List Addr) (ns hx : List Nat), Fr G2 c' env [("replies", some (.list (ls.map .str))), ("key", some (.val (.ref a))), ("made", some (.val (.ref am))), ("keys", some (.val (.ref ak))), ("heap", some (.val (.ref ah)))]
      [(ah, (refsOf ks hx).map .val), (ak, ks.map fun X => .val (.ref X)), (am, (ns.map replyL).map .str)] h' ∧ Mlt n0 ns hx ∧ hx.length = 1)
    hx0.length ?_ (.refl c6) ?_ ?_
  · rw [lks, ← hls, List.length_map] at px
    refine ⟨ks, n0, hx0, ?_, by rw [hls]; exact kx6, ⟨M0.lt, fun i hi => List.mem_range.mp (px.mem_iff.mp hi), by rw [px.length_eq, List.length_range]; lia, px.mem_iff.mpr (List.mem_range.mpr (by lia)), M0.me.perm (px.symm.map _)⟩, ?_, rfl⟩
    · rw [hls]
      rw [ex] at F7
      exact F7
    · rw [ex] at hp1; exact hp1
  · rintro m c8 h8 t8 u8 ⟨ks, ns, hx, F, kx, MM, hheap, hlen⟩
    have lz : ((refsOf ks hx).map PV.val).length = hx.length := by simp
    have ln := MM.ln
    have lkn : ks.length = ns.length := by rw [kx.1, List.length_map]
    have hpos : 1 ≤ hx.length := List.length_pos_of_mem MM.ls
    refine wpAny_gen fun Qt hQt => ?_
    refine F.useZB gf2 (by walk_at "froz") (evb_cmp (ev_callB (ev_bi GG6 kk (by walk_at "mem") N6.hq.gl) (evl_cons (ev_name (by walk_at "mem")) evl_nil) (cl_len (by lia))) ev_int cm_gt) u8 fun c9 h9 t9 x9 F9 => hQt _ _ ?_
    clear hQt Qt
    by_cases hb : (1 : Int) < (((refsOf ks hx).map PV.val).length : Nat)
    · rw [if_pos (by simpa using hb)]
      refine wpAny_gen fun Qb hQb => ?_
      rw [lz] at hb
      have KU : Up c6 c9 := u8.trans x9.cc
      have N9 := N6.up KU
      have O9 := O6.up KU
      have GG9 := GG6.up KU
      have kc9 := kc6.up KU
      have kx9 := kx.up x9.cc
      have hsz := replies_len MM.lt
      have lnl : (ns.map replyL).length = ns.length := List.length_map _
      have hi : ∀ i ∈ hx, i < (ns.map replyL).length := fun i hm => by rw [lnl]; exact MM.hi i hm
      have hh9 := ltC_cong kx kx9 hi hheap
      obtain ⟨obR, fdR, hR1, hR2⟩ : ∃ ob fd, c9.get? 30 = some ob ∧ ob.data = .func fd := by
        obtain ⟨_, _, _, _, _, _, _, _, o, h1, h2, _⟩ := O9.dr; exact ⟨o, _, h1, h2⟩
      refine s_append2 (x := "made") (by walk_at "mem") (by walk_at "mem") F9 (by rw [List.length_map]; lia) (r_fnO GG9 kk (by walk_at "mem") O9.gr hR1 hR2 (.refl _) F9 (args_cons ((ev_glob GG9 kk (by walk_at "mem") O9.gd).use (.refl _) F9 fun c10 v10 h10 t10 x10 F10 d10 => args_cons (wpAny_BinOp ?_))))
      simp only [Den] at d10
      subst d10
      have kx10 := kx9.up x10.cc
      refine r_fn (GG9.up x10.cc) kk (by walk_at "mem") N9.g5 (N9.up x10.cc).dpp (.refl _) F10 (args_cons (F10.ld (x := "heap") (by walk_at "mem") fun va dva => args_cons (F10.ld (x := "keys") (by walk_at "mem") fun vk dvk => args_cons (F10.ld (x := "made") (by walk_at "mem") fun vr dvr => args_nil ⟨F10.up, ?_⟩))))
      simp only [Den] at dva dvk dvr
      subst dva dvk dvr
      refine fr_popped (N9.up x10.cc) (GG9.up x10.cc) (kc9.up x10.cc) F10 kx10 hsz hi hpos (by lia) (by lia) (ltC_cong kx9 kx10 hi hh9) rm fun c11 D1 h11 t11 i r1 u11 F11 dv11 p1 hp11 => ?_
      have U11 : Up c9 c11 := x10.cc.trans u11
      have kx11 := kx9.up U11
      have hi1 : ∀ m ∈ r1, m < (ns.map replyL).length := fun m hm => hi m (p1.mem_iff.mpr (.tail _ hm))
      have l1 := p1.length_eq
      rw [List.length_cons] at l1
      refine r_fn (GG9.up U11) kk (by walk_at "mem") N9.g5 (N9.up U11).dpp (.refl _) F11 (args_cons (F11.ld (x := "heap") (by walk_at "mem") fun va dva => args_cons (F11.ld (x := "keys") (by walk_at "mem") fun vk dvk => args_cons (F11.ld (x := "made") (by walk_at "mem") fun vr dvr => args_nil ⟨F11.up, ?_⟩))))
      simp only [Den] at dva dvk dvr
      subst dva dvk dvr
      refine fr_popped (N9.up U11) (GG9.up U11) (kc9.up U11) F11 kx11 hsz hi1 (by lia) (by lia) (by lia) hp11 rm fun c12 D2 h12 t12 j rest u12 F12 dv12 p2 hp12 => ?_
      have U12 : Up c9 c12 := U11.trans u12
      have pp : hx.Perm (i :: j :: rest) := p1.trans (p2.cons i)
      have mi : i < ns.length := MM.hi i (pp.mem_iff.mpr (.head _))
      have mj : j < ns.length := MM.hi j (pp.mem_iff.mpr (.tail _ (.head _)))
      have mr : ∀ m ∈ rest, m < ns.length := fun m hm => MM.hi m (pp.mem_iff.mpr (.tail _ (.tail _ hm)))
      have l2 := p2.length_eq
      rw [List.length_cons] at l2
      rw [getD_reply ns mi] at dv11
      rw [getD_reply ns mj] at dv12
      obtain ⟨-, vi, vj, vp⟩ := MM.step pp (.refl _)
      refine op_ladd (ps := [.str (replyL (ns.getD i 0))]) (qs := [.str (replyL (ns.getD j 0))]) (by simp) c12 h12 _ _ F12.up (Den.up u12 _ dv11) dv12 _ _ _ _ _ _ fun c13 v13 h13 t13 x13 d13 => args_nil ?_
      have F13 := F12.ext x13
      have U13 : Up c9 c13 := U12.trans x13.cc
      refine ⟨U13.trans F13.up, ?_⟩
      refine reduce2 (m := ns.getD i 0) (n := ns.getD j 0) (O9.up U13) (GG9.up U13) rm vi vj vp c13 h13 _ (.refl _) F13.up (by simp only [DenL, List.append_nil]; exact ⟨by simp [Den], d13, trivial⟩) _ _ _ _ _ _ fun c14 v14 h14 t14 x14 d14 => ?_
      have F14 := F13.ext x14
      have U14 : Up c9 c14 := U13.trans x14.cc
      refine ⟨c14, h14, t14, _, _, _, rfl, F14, by walk_at "mem", d14, by walk_at "rep", fun h15 t15 F15 => ?_⟩
      have eT : (ns.map replyL).map PV.str ++ [PV.str (replyL (prodN (ns.getD i 0) (ns.getD j 0)))] = ((ns ++ [prodN (ns.getD i 0) (ns.getD j 0)]).map replyL).map PV.str := by simp
      rw [eT] at F15
      have st := fun hx' (p' : List.Perm hx' (ns.length :: rest)) => (MM.step pp p').1
      clear vi vj vp d14 d13 dv11 dv12
      generalize prodN (ns.getD i 0) (ns.getD j 0) = pv at *
      have eT2 : (((ns ++ [pv]).map replyL).map PV.str)[(((ns ++ [pv]).map replyL).map PV.str).length - 1]? = some (.str (replyL pv)) := by simp
      have lT : (((ns ++ [pv]).map replyL).map PV.str).length = ns.length + 1 := by simp
      refine s_append (x := "keys") (by walk_at "mem") (by walk_at "mem") F15 (by simp only [List.length_map]; lia) (Call_ (F15.ld (x := "key") (by walk_at "mem") fun v dv => ?_))
      simp only [Den] at dv
      subst dv
      refine callWith_K hh (F15.useZ gf2 (by walk_at "froz") (ev_sub (ev_name (by walk_at "mem")) (ev_neg ev_int) (it_neg (i := 1) eT2 (by decide) (by lia) (by lia) rfl)) (.refl _) trivial fun c16 v16 h16 t16 x16 F16 d16 => ⟨h16, t16, rfl, (kc9.up (U14.trans x16.cc)).up F16.up, fun h17 u17 => ?_⟩)
      have U16 : Up c9 c16 := U14.trans x16.cc
      refine key_spec (n := 0) (kc9.up U16) (GG9.up U16).lim (F16.up.trans u17) rm.le d16 fun X c18 h18 t18 x18 nX kX => ?_
      refine ⟨c18, h18, t18, .val (.ref X), _, rfl, F16.ext ((Ext.grow F16.up u17).trans x18), by simp [Den], by walk_at "rep", fun h19 t19 F19 => ?_⟩
      have eK : (ks.map fun X => PV.val (.ref X)) ++ [PV.val (.ref X)] = (ks ++ [X]).map fun X => PV.val (.ref X) := by simp
      have eK2 : ((ks ++ [X]).map fun X => PV.val (.ref X))[((ks ++ [X]).map fun X => PV.val (.ref X)).length - 1]? = some (.val (.ref X)) := by simp
      have lK : ((ks ++ [X]).map fun X => PV.val (.ref X)).length = ks.length + 1 := by simp
      rw [eK] at F19
      have U18 : Up c9 c18 := U16.trans x18.cc
      have kx18 : KeysOf c18 a (ks ++ [X]) ((ns ++ [pv]).map replyL) := by
        rw [List.map_append]
        refine (kx9.up U18).snoc (fun m => ?_) kX
        obtain ⟨l', D', sk', e'⟩ := (kx9.up U16).alive m
        have := u17 _ _ (F16.up _ _ e')
        rw [nX] at this; cases this
      refine s_exprR F19 (r_fn (GG9.up U18) kk (by walk_at "mem") N9.g7 (N9.up U18).hq.push (.refl _) F19 (args_cons (F19.ld (x := "heap") (by walk_at "mem") fun v dv => args_cons (F19.useZ gf2 (by walk_at "froz") (ev_sub (ev_name (by walk_at "mem")) (ev_neg ev_int) (it_neg (i := 1) eK2 (by decide) (by lia) (by lia) rfl)) (.refl _) trivial fun c20 v20 h20 t20 x20 F20 d20 => args_nil ⟨x20.cc.trans F20.up, ?_⟩))))
      simp only [Den] at dv d20
      subst dv d20
      have U20 : Up c9 c20 := U18.trans x20.cc
      have kx20 := kx18.up x20.cc
      have kx20' := kx9.up U20
      have mr' : ∀ m ∈ rest, m < (ns.map replyL).length := fun m hm => by rw [lnl]; exact mr m hm
      have hpv : pv < fib 79 := (st _ (.refl _)).lt pv (by simp)
      obtain ⟨H3, P3⟩ := HL.hpush_law (ltC_wo c20) (v := .ref X) (ltC_cong (kx9.up U12) kx20' mr' hp12)
      refine fr_push (n := 2) (lt := ltC c20) (El := IsKeyB c20 a) (N9.up U20).hq (GG9.up U20) (ord_C (kc9.up U20) (GG9.up U20) (N9.up U20).dc N9.hq.gl) F20 (by walk_at "mem") (by walk_at "rep") (keys_el kx20' hsz mr') ⟨X, _, rfl, kX.up x20.cc, reply_len hpv⟩ (by simp; lia) rm.le fun h21 t21 F21 => ⟨rfl, ?_⟩
      have ers : Value.ref X :: refsOf ks rest = refsOf (ks ++ [X]) (ks.length :: rest) := refs_snoc fun m hm => by rw [lkn]; exact mr m hm
      obtain ⟨hx', px', ex'⟩ := perm_map (fun i => Value.ref ((ks ++ [X]).getD i 0)) P3 _ ers
      rw [ex'] at F21 H3
      rw [lkn] at px'
      have l3 := px'.length_eq
      rw [List.length_cons] at l3
      exact wpAny_execs_nil (hQb _ _ ⟨hx'.length, c20, h21, t21, by lia, x9.cc.trans U20, ⟨ks ++ [X], ns ++ [pv], hx', F21, kx20, st hx' px', H3, rfl⟩, rfl⟩)
    · rw [if_neg (by simpa using hb)]
      rw [lz] at hb
      exact ⟨c9, h9, t9, x9.cc, ⟨ks, ns, hx, F9, MM, by lia⟩, rfl⟩
  · rintro c8 h8 t8 u8 ⟨ks, ns, hx, F, MM, hx1⟩
    obtain ⟨F1, hd⟩ := F.freezeG (by simpa using hGn)
    have F2' := F1.retype (by walk_at "froz") hd gf2
    have hl := MM.last hx1
    have ln := MM.ln
    have eg : ((ns.map replyL).map PV.str)[((ns.map replyL).map PV.str).length - 1]? = some (.str (replyL (vprod n0).1)) := by
      rw [List.length_map, List.length_map, List.getElem?_map, List.getElem?_map, ← hl, List.getD_eq_getElem?_getD, List.getElem?_eq_getElem (by lia)]; rfl
    have lT : ((ns.map replyL).map PV.str).length = ns.length := by simp
    generalize replyL (vprod n0).1 = res at *
    refine s_ret (ev_sub (ev_name (by walk_at "mem")) (ev_neg ev_int) (it_neg (i := 1) eg (by decide) (by lia) (by lia) rfl)) (.refl _) F2' fun c' v h' t' x F' dv => by
      obtain ⟨b1, _, b3⟩ := back _ _ _ _ F'
      exact hQf _ _ (k c' v h' t' b1.ex b3 dv)
end
end Mine
namespace Mine
noncomputable def isortN (m : List Nat) : List Nat := m.mergeSort (fun a b => decide (a ≤ b))
theorem isortN_perm (m : List Nat) : (isortN m).Perm m := List.mergeSort_perm m _
theorem isortN_sorted (m : List Nat) : (isortN m).Pairwise (· ≤ ·) := by
  have := List.pairwise_mergeSort (le := fun a b : Nat => decide (a ≤ b)) (fun a b c h1 h2 => by simp at *; lia) (fun a b => by simp; lia) m
  exact this.imp (by simp)
theorem in_order_res {m : List Nat} (hm : ∀ n ∈ m, n ≤ 88) {res : List (List Nat)} (p : res.Perm (m.map replyL)) (s : res.Pairwise (fun l k => ¬ cmpT k l < 0)) : res = (isortN m).map replyL := by
  obtain ⟨l', pl, rfl⟩ := perm_map replyL p m rfl
  have h1 : l'.Pairwise (· ≤ ·) := (List.pairwise_map.mp s).imp_of_mem fun {a b} ha hb h => by
    have ha := hm a (pl.mem_iff.mp ha)
    rcases Nat.lt_or_ge b a with q | q
    · exact absurd (order_lt q (by lia)) h
    · exact q
  have : l' = isortN m := List.Perm.eq_of_pairwise (fun a b _ _ h1 h2 => Nat.le_antisymm h1 h2) h1 (isortN_sorted m) (pl.trans (isortN_perm m).symm)
  rw [this]
theorem idx_reply {n : Nat} (hn : n ≤ 88) : ∀ {m : List Nat}, (∀ x ∈ m, x ≤ 88) → n ∈ m → m[(m.map replyL).idxOf (replyL n)]? = some n
  | a :: m, h, hm => by
    rw [List.map_cons, List.idxOf_cons]
    by_cases e : a = n
    · subst e; simp
    · have ne : (replyL a == replyL n) = false := by
        rw [beq_eq_false_iff_ne]
        exact fun q => e (replyL_inj (by have := h a (.head _); lia) (by lia) q)
      rw [ne]
      have hm' : n ∈ m := by
        rcases List.mem_cons.mp hm with q | q
        · exact absurd q.symm e
        · exact q
      have := idx_reply hn (fun x hx => h x (.tail _ hx)) hm'
      simpa using this
theorem all_len : ∀ (ns s : List Nat) (k : Nat), (∀ n ∈ ns, n ≤ 88) → (∀ a ∈ s, a ≤ 10 * k) → (ns.foldl (fun s n => s.flatMap fun t => (places n).map fun p => t + p) s).length ≤ s.length * 5 ^ ns.length ∧ ∀ a ∈ ns.foldl (fun s n => s.flatMap fun t => (places n).map fun p => t + p) s, a ≤ 10 * (k + ns.length)
  | [], s, k, _, hs => ⟨by simp, by simpa using hs⟩
  | n :: ns, s, k, h, hs => by
    obtain ⟨h1, h2⟩ := small_places (h n (.head _))
    have l1 : (s.flatMap fun t => (places n).map fun p => t + p).length ≤ s.length * 5 := flat_len _ _ _ fun a _ => by simpa using h2
    have b1 : ∀ a ∈ s.flatMap fun t => (places n).map fun p => t + p, a ≤ 10 * (k + 1) := fun a ha => by
      simp only [List.mem_flatMap, List.mem_map] at ha
      obtain ⟨x, hx, y, hy, rfl⟩ := ha
      have := hs x hx
      have := h1 y hy
      lia
    obtain ⟨i1, i2⟩ := all_len ns _ (k + 1) (fun x hx => h x (.tail _ hx)) b1
    rw [List.foldl_cons]
    refine ⟨Nat.le_trans i1 ?_, fun a ha => by have := i2 a ha; rw [List.length_cons]; lia⟩
    rw [List.length_cons, Nat.pow_succ, Nat.mul_comm (5 ^ _) 5, ← Nat.mul_assoc]
    exact Nat.mul_le_mul_right _ l1
theorem all_small {m : List Nat} (h : ∀ n ∈ m, n ≤ 88) (hl : m.length ≤ 4) : (allSums m).length ≤ 625 ∧ ∀ a ∈ allSums m, a ≤ 40 := by
  obtain ⟨h1, h2⟩ := all_len m [0] 0 h (by simp)
  refine ⟨Nat.le_trans h1 ?_, fun a ha => by have := h2 a ha; lia⟩
  exact Nat.le_trans (Nat.mul_le_mul_left _ (Nat.pow_le_pow_right (by decide) hl)) (by decide)
theorem Melt.take {m : List Nat} {a : Nat} {l : List Nat} (M : Melt m (a :: l)) : ∀ i, i ≤ l.length → Melt m ((l.take i).foldl prodN a :: l.drop i)
  | 0, _ => by simpa using M
  | i + 1, h => by
    have ih := Melt.take M i (by lia)
    have e1 : l.drop i = l[i] :: l.drop (i + 1) := List.drop_eq_getElem_cons (by lia)
    rw [e1] at ih
    have st := ih.step
    have e2 : l.take (i + 1) = l.take i ++ [l[i]] := by rw [List.take_add_one, List.getElem?_eq_getElem (by lia)]; rfl
    rw [e2, List.foldl_append, List.foldl_cons, List.foldl_nil]
    exact st
theorem Melt.at {m : List Nat} {a : Nat} {l : List Nat} (M : Melt m (a :: l)) {i : Nat} (h : i < l.length) : (l.take i).foldl prodN a < fib 79 ∧ l[i] < fib 79 ∧ (l.take (i + 1)).foldl prodN a = prodN ((l.take i).foldl prodN a) l[i] ∧ prodN ((l.take i).foldl prodN a) l[i] < fib 79 := by
  have M1 := M.take i (by lia)
  have M2 := M.take (i + 1) h
  have e1 : l.drop i = l[i] :: l.drop (i + 1) := List.drop_eq_getElem_cons (by lia)
  have e2 : l.take (i + 1) = l.take i ++ [l[i]] := by rw [List.take_add_one, List.getElem?_eq_getElem (by lia)]; rfl
  have e3 : (l.take (i + 1)).foldl prodN a = prodN ((l.take i).foldl prodN a) l[i] := by rw [e2, List.foldl_append, List.foldl_cons, List.foldl_nil]
  refine ⟨M1.lt (List.mem_cons_self ..) (by decide), M1.lt (by rw [e1]; exact List.mem_cons_of_mem _ (List.mem_cons_self ..)) (by decide), e3, ?_⟩
  rw [← e3]
  exact M2.lt (List.mem_cons_self ..) (by decide)
/-- what is due -/
theorem due_is {n : Nat} {ns : List Nat} (h : ∀ v ∈ n :: ns, 1 ≤ v ∧ v ≤ 88) (hl : (n :: ns).length ≤ 4) : sX (allSums (n :: ns)) = (vprod (n :: ns)).1 ∧ ns.foldl prodN n = (vprod (n :: ns)).1 ∧ (vprod (n :: ns)).1 < fib 79 := by
  have M := Melt.start h hl
  have M1 := M.fold
  have e := M1.one
  refine ⟨all_is fun x hx => M.lt hx (by decide), e, ?_⟩
  rw [← e]
  exact M1.lt (List.mem_cons_self ..) (by decide)
theorem read_sum {n : Nat} (h : n < fib 79) : ((places n).reverse.map fib).sum = n := by
  have h1 := (places_ok (n := n) (Nat.lt_of_lt_of_le h (fib_mono (by lia)))).1
  have h2 : sX (places n).reverse = sX (places n) := sX_perm (List.reverse_perm _)
  unfold sX at h1 h2
  exact h2.trans h1
noncomputable def drawnOf (ns : List Int) : List Int := (ns.take 4 ++ [2048, 32, 3]).take (max 3 (ns.take 4).length)
theorem drawnOf_len (ns : List Int) : 3 ≤ (drawnOf ns).length ∧ (drawnOf ns).length ≤ 4 := by
  unfold drawnOf
  simp only [List.length_take, List.length_append, List.length_cons, List.length_nil]
  lia
noncomputable def numsOf (ds : List Int) : List Nat := ds.map fun d => (d.fmod 88).toNat + 1
theorem numsOf_ok (ds : List Int) : ∀ v ∈ numsOf ds, 1 ≤ v ∧ v ≤ 88 := fun v hv => by
  obtain ⟨d, _, rfl⟩ := List.mem_map.mp hv
  have := Int.fmod_lt_of_pos d (b := 88) (by decide)
  lia
end Mine
namespace Mine
open PySem PySem.W PyProof.Rows
local macro_rules | `(tactic| walk_at "mem") => `(tactic| first | with_reducible exact List.mem_cons_self | (with_reducible refine List.mem_cons_of_mem _ ?_; walk_at "mem"))
local macro_rules | `(tactic| walk_at "put") => `(tactic| first | with_reducible exact PutP.head | (with_reducible apply PutP.tail; walk_at "put"))
local macro_rules | `(tactic| walk_at "memz") => `(tactic| ((simp only [List.map_cons, List.map_nil, List.zip_cons_cons, List.zip_nil_left, List.zip_nil_right, List.cons_append, List.nil_append]); walk_at "mem"))
/-- what law asks of the top -/
structure LQ (c : Heap) (nm bn : List (Str × Value)) (T M : Addr) : Prop where
  iq : IQ c nm bn
  oq : OQ c nm bn T M
  d : IsDef c 179 (stm 28)
  dw : IsDef c 169 (stm 26)
  da : IsDef c 174 (stm 27)
  g1 : (("_law_as_worth" : Str), Value.ref 169) ∈ nm
  g2 : (("_law_in_order" : Str), Value.ref 159) ∈ nm
  g3 : (("_law_all_sums" : Str), Value.ref 174) ∈ nm
  g4 : (("_law_melted" : Str), Value.ref 164) ∈ nm
  n1 : (("sorted" : Str), Value.builtin "sorted") ∈ bn
section
variable {prog : Program} {w : World} {A : Around} {K c c' h h' : Heap} {G : Org} {env cenv : Env} {ρ ρ' : Vars} {R R' : Led} {g : Array GenState} {d : Drawn} {t : Nat} {o : OsState} {nm bn : List (Str × Value)}
theorem LQ.up {T M : Addr} (N : LQ c nm bn T M) (u : Up c c') : LQ c' nm bn T M := ⟨N.iq.up u, N.oq.up u, N.d.up u, N.dw.up u, N.da.up u, N.g1, N.g2, N.g3, N.g4, N.n1⟩
/-- the replies in their order, told back as numbers -/
theorem EvB.cast {e : Expr} {a b : Bool} (hh : a = b) (x : EvB prog w A K env ρ R e a) : EvB prog w A K env ρ R e b := hh ▸ x
theorem numbers_loop {m : List Nat} (hl : m.length ≤ 4) {elt : Expr} {scope : Scope} {pos px : Pos} {iter : Expr} {c0 h0 c1 h2 : Heap} {t2 : Nat} {D I : Addr} {fp wr : List Addr} {Si : Nat → Heap → Prop} {RR : Result → Shared → Prop} (ce : CEnv env cenv [] ["reply"])
    (S : Src prog w A c1 (.Name "reply" px) ["reply"] I fp wr ((isortN m).map fun n => [PV.str (replyL n)]) Si) (hs : Si 0 h2)
    (F : Fr ⟨c0, h0, [], false⟩ c1 cenv ([("reply" : Str)].map (fun x => (x, none)) ++ [(("numbers" : Str), some (PV.list (nats m))), (("replies" : Str), some (PV.list ((m.map replyL).map PV.str)))]) [(D, [])] h2) (off : Off ⟨c0, h0, [], false⟩ c1 cenv [(D, [])] wr)
    (kk : ∀ c' ρ' ys h' t', Fr ⟨c0, h0, [], false⟩ c' cenv ρ' [(D, ys)] h' → ys = (isortN m).map (fun n => PV.int (n : Nat)) → RR (.ok .next) ⟨h', g, d, t', o⟩)
    (el : ∀ n ∈ isortN m, ∀ R, Ev prog w A c1 cenv ([("reply" : Str)].zip ([PV.str (replyL n)].map some) ++ [(("numbers" : Str), some (PV.list (nats m))), (("replies" : Str), some (PV.list ((m.map replyL).map PV.str)))]) R elt (PV.int (n : Nat))) :
    codeAny (model prog w) A (.compLoop (.ListComp elt [⟨.Name "reply" px, iter, [], 0⟩] scope pos) 0 (.ref I) (.ref D) cenv) RR ⟨h2, g, d, t2, o⟩ := by
  have e : ((isortN m).filter fun _ => true).map (fun n => PV.int ((n : Nat) : Int)) = (isortN m).map (fun n => PV.int (n : Nat)) := by rw [PyProof.Rows.filter_true']
  exact loop1 (P := fun _ ys => ys = (isortN m).map (fun n => PV.int (n : Nat))) (fun n => [PV.str (replyL n)]) (fun _ => true) (fun n => PV.int (n : Nat)) (by rw [(isortN_perm m).length_eq]; lia) (by simp) (fun _ _ _ => evi_nil) (fun n hn _ R => el n hn R) ce.l (.refl c1) S hs F off (fun _ => e) kk
/-- one turn of reduce over the product -/
theorem reduce_turn {T M : Addr} {n0 : Nat} {nr : List Nat} (O : OQ K nm bn T M) (GG : Glb K nm bn) (room : Rm A 4) {ns : List Nat} (MM : Melt ns (n0 :: nr)) {i : Nat} (hi : i < nr.length) :
    Cl prog w A K (.ref 142) [PV.str (replyL ((nr.take i).foldl prodN n0)), PV.str (replyL nr[i])] (PV.str (replyL ((nr.take (i + 1)).foldl prodN n0))) := by
  obtain ⟨a1, a2, a3, a4⟩ := MM.at hi
  rw [a3]
  exact law_product_cl O GG room a1 a2 a4
theorem reduce_all {T M : Addr} {n0 : Nat} {nr : List Nat} (O : OQ K nm bn T M) (GG : Glb K nm bn) (room : Rm A 6) (h : ∀ v ∈ n0 :: nr, 1 ≤ v ∧ v ≤ 88) (hl : (n0 :: nr).length ≤ 4) :
    Cl prog w A K (.ref 30) [.val (.ref 142), .list (((n0 :: nr).map replyL).map .str)] (.str (replyL (vprod (n0 :: nr)).1)) := by
  obtain ⟨oT, nT, hT1, hT2⟩ := O.tM
  have MM := Melt.start h hl
  obtain ⟨-, q2, -⟩ := due_is h hl
  have tn := fun (B' : Around) (rB : Rm B' 4) (i : Nat) (hi : i < nr.length) => reduce_turn (prog := prog) (w := w) O GG rB MM hi
  have e1 : PV.str (replyL (vprod (n0 :: nr)).1) = PV.str (replyL ((nr.take (nr.map fun n => PV.str (replyL n)).length).foldl prodN n0)) := by rw [List.length_map, List.take_length, q2]
  have e2 : ((n0 :: nr).map replyL).map PV.str = PV.str (replyL n0) :: nr.map fun n => PV.str (replyL n) := by rw [List.map_cons, List.map_cons, List.map_map]; rfl
  rw [e1, e2]
  clear e1 e2 q2 MM h hl
  have tn2 : ∀ B', Rm B' 4 → ∀ i p, (nr.map fun n => PV.str (replyL n))[i]? = some p → Cl prog w B' K (.ref 142) [PV.str (replyL ((nr.take i).foldl prodN n0)), p] (PV.str (replyL ((nr.take (i + 1)).foldl prodN n0))) := fun B' rB i p hp => by
    have hi : i < nr.length := by have := (List.getElem?_eq_some_iff.mp hp).1; rw [List.length_map] at this; exact this
    rw [List.getElem?_map, List.getElem?_eq_getElem hi, Option.map_some, Option.some.injEq] at hp
    rw [← hp]
    exact tn B' rB i hi
  clear tn
  exact reduce_cl (T := T) (M := M) (st := stm 21) (p0 := .str (replyL n0)) (ps := nr.map fun n => PV.str (replyL n)) (kk := 4) (fun i => PV.str (replyL ((nr.take i).foldl prodN n0))) O.dr hT1 hT2 GG O.gm O.bi O.be O.dd room.le rfl tn2
set_option pp.deepTerms false
set_option maxRecDepth 20000 in
set_option maxHeartbeats 2000000 in
theorem law_spec {T M : Addr} {hs : Nat → Int} {tkk : Nat → Nat} {z1 z2 : Nat} {vv : Nat → Nat} {file : Str} {ns : List Int} {v : Value} {Q E : Value → Shared → Prop} (N : LQ c nm bn T M) (hB : ∀ q ∈ B2 hs tkk file z1 z2 vv, c.get? q.1 = some q.2) (GG : Glb c nm bn) (u : Up c h) (c16 : c.get? 16 = none) (h16 : h.get? 16 = some { cls := .none, data := .fields #[] }) (room : Rm A 8)
    (dv : Den c v (.list (ns.map .int))) (hz : ns.length < 100000) (k : ∀ c' h' t', Ext [16] c h c' h' → (∃ more, h'.get? 16 = some { cls := .none, data := .fields more }) → Q (.bool true) ⟨h', g, d, t', o⟩) :
    wpAny (model prog w) A (call (.ref 179) [v]) Q E ⟨h, g, d, t, o⟩ := by
  refine enterP (ps := [.list (ns.map .int)]) ["script"] ["drawn", "numbers", "replies", "due"] [] N.d u GG.lim room (.one dv) (by simp) (by simp) (fun _ _ _ _ _ _ _ _ => rfl) rfl (by kernel_rfl) fun env h₁ t₁ e1 e2 e3 rm F => ?_
  simp only [List.map_cons, List.map_nil, List.zip_cons_cons, List.zip_nil_right, List.cons_append, List.nil_append] at F
  have kk : GK env ["max", "len", "_law_reply", "_law_sum", "_law_in_order", "sorted", "_law_all_sums", "reduce", "_law_product", "_law_melted"] := .of e2 e3 (by rw [e1]; kernel_rfl)
  have hh := rm.hd
  generalize A.deeper env = B at rm hh ⊢
  refine wpAny_gen fun Qf hQf => ?_
  have h16' := F.ex.up _ _ h16
  have hu : B.units + 64 < cLine := by have := rm.un; show _ < 9900; lia
  have lns : (ns.map PV.int).length = ns.length := List.length_map _
  have s4 : slc (ns.map PV.int) none (some 4) = (ns.take 4).map .int := by rw [show (some 4 : Option Int) = some ((4 : Nat) : Int) from rfl, slc_to, List.map_take]
  have l4 : (ns.take 4).length ≤ 4 := by rw [List.length_take]; lia
  have l4' : ((ns.take 4).map PV.int).length = (ns.take 4).length := List.length_map _
  have x4 : ∀ {p1 p2 p3 p4 : Pos}, Ev prog w B c env [("script", some (.list (ns.map .int))), ("drawn", none), ("numbers", none), ("replies", none), ("due", none)] [] (.Subscript (.Name "script" p1) (.Slice none (some (.Constant (.int 4) 0 p2)) none p3) p4) (.list ((ns.take 4).map .int)) := by
    intro p1 p2 p3 p4
    rw [← s4]
    exact ev_lslice (ev_name (by walk_at "mem")) evo_none (evo_some ev_int) (by lia)
  have eM : (if (((ns.take 4).map PV.int).length : Int) > 3 then (((ns.take 4).map PV.int).length : Int) else 3) = ((max 3 (ns.take 4).length : Nat) : Int) := by rw [l4']; split <;> lia
  have e4 : ((ns.take 4).map PV.int ++ [PV.int 2048, .int 32, .int 3]) = (ns.take 4 ++ [2048, 32, 3]).map PV.int := by simp
  refine s_asg (p := .list ((drawnOf ns).map .int)) (Ev.cast (by rw [eM, slc_to, e4, ← List.map_take]; rfl) (ev_lslice (ev_bin x4 (ev_list (evl_cons ev_int (evl_cons ev_int (evl_cons ev_int evl_nil)))) (op_ladd (by rw [l4']; simp; lia))) evo_none (evo_some (ev_callB (ev_bi GG kk (by walk_at "mem") N.oq.g.f.bm) (evl_cons ev_int (evl_cons (ev_callB (ev_bi GG kk (by walk_at "mem") N.oq.g.f.bl) (evl_cons x4 evl_nil) (cl_len (by lia))) evl_nil)) (cl_max2 hh))) (by rw [List.length_append, l4']; simp; lia))) (.refl _) F (by walk_at "put") ?_
  intro c2 h2 t2 u2 F2
  clear x4
  obtain ⟨ln1, ln2⟩ := drawnOf_len ns
  have hok := numsOf_ok (drawnOf ns)
  have lno : (numsOf (drawnOf ns)).length = (drawnOf ns).length := List.length_map _
  have eno : numsOf (drawnOf ns) = (drawnOf ns).map fun d => (d.fmod 88).toNat + 1 := rfl
  generalize drawnOf ns = ds at *
  have N2 := N.up u2
  have GG2 := GG.up u2
  have m4 : ∀ d : Int, d.fmod 4096 = (((d.fmod 4096).toNat : Nat) : Int) := fun d => (Int.toNat_of_nonneg (Int.fmod_nonneg_of_pos _ (by decide))).symm
  have ef : (ds.filter fun _ => !true).map PV.int = ([] : List Int).map PV.int := by simp
  have eb1 : (!decide (([] : List Int) = [])) = false := by decide
  refine s_ifF (EvB.cast eb1 (evb_cmp (Ev.cast (congrArg PV.list ef) (ev_comp1 (xs := ["number"]) (gs := ["_law_as_worth"]) (caps := []) (items := ds) (fun d => [PV.int d]) (fun _ => !true) PV.int (srcE_listT PV.int hh (ev_name (by walk_at "mem"))) e1 (by kernel_rfl) (by simp) (by lia) (by simp)
      (fun cenv ce d hd R => evi_one (evb_not (evb_tr (ev_callF (ev_glob GG2 (ce.gk kk) (by walk_at "mem") N2.g1) N2.dw (evl_cons (Ev.cast (congrArg PV.int (m4 d)) (ev_bin (ev_name (by walk_at "memz")) ev_int (op_mod (by decide)))) evl_nil) (as_worth_cl N2.oq N2.dw GG2 rm.le)) tr_bool)))
      (fun cenv ce d hd _ R => ev_name (by walk_at "memz")))) (Ev.cast (p := .list []) (q := .list (([] : List Int).map PV.int)) rfl (ev_list evl_nil (by decide))) (cm_nints hu))) (.refl c2) F2 ?_
  intro c3 h3 t3 u3 F3
  have m88 : ∀ d : Int, d.fmod 88 + 1 = (((d.fmod 88).toNat + 1 : Nat) : Int) := fun d => by have := Int.fmod_nonneg_of_pos d (b := 88) (by decide); lia
  have enm : (ds.filter fun _ => true).map (fun d => PV.int (((d.fmod 88).toNat + 1 : Nat) : Int)) = nats (numsOf ds) := by rw [PyProof.Rows.filter_true', eno, nats, List.map_map]; rfl
  refine s_asg (p := .list (nats (numsOf ds))) (Ev.cast (congrArg PV.list enm) (ev_comp1 (xs := ["number"]) (gs := []) (caps := []) (items := ds) (fun d => [PV.int d]) (fun _ => true) (fun d => PV.int (((d.fmod 88).toNat + 1 : Nat) : Int)) (srcE_listT PV.int hh (ev_name (by walk_at "mem"))) e1 (by kernel_rfl) (by simp) (by lia) (by simp) (fun _ _ _ _ _ => evi_nil)
      (fun cenv ce d hd _ R => Ev.cast (congrArg PV.int (m88 d)) (ev_bin (ev_bin (ev_name (by walk_at "memz")) ev_int (op_mod (by decide))) ev_int op_add)))) (.refl c3) F3 (by walk_at "put") ?_ (hs := swaps_is e1 (by kernel_rfl))
  intro c4 h4 t4 u4 F4
  generalize numsOf ds = m at *
  have hm : ∀ n ∈ m, n ≤ 88 := fun n hn => (hok n hn).2
  have hm79 : ∀ n ∈ m, n < fib 79 := fun n hn => fib_le_of (by have := hm n hn; lia) (by decide)
  have u4' := (u2.trans u3).trans u4
  have N4 := N.up u4'
  have GG4 := GG.up u4'
  have erp : (m.filter fun _ => true).map (fun n => PV.str (replyL n)) = (m.map replyL).map .str := by rw [PyProof.Rows.filter_true', List.map_map]; rfl
  refine s_asg (p := .list ((m.map replyL).map .str)) (Ev.cast (congrArg PV.list erp) (ev_comp1 (xs := ["number"]) (gs := ["_law_reply"]) (caps := []) (items := m) (fun n => [PV.int (n : Nat)]) (fun _ => true) (fun n => PV.str (replyL n)) (srcE_listT (fun n : Nat => PV.int (n : Nat)) hh (Ev.cast (p := .list (nats m)) rfl (ev_name (by walk_at "mem")))) e1 (by kernel_rfl) (by simp) (by lia) (by simp) (fun _ _ _ _ _ => evi_nil)
      (fun cenv ce n hn _ R => ev_callF (ev_glob GG4 (ce.gk kk) (by walk_at "mem") N4.oq.gy) N4.oq.dy (evl_cons (ev_name (by walk_at "memz")) evl_nil) (law_reply_cl N4.oq GG4 rm.le (hm79 n hn))))) (.refl c4) F4 (by walk_at "put") ?_ (hs := swaps_is e1 (by kernel_rfl))
  intro c5 h5 t5 u5 F5
  have u5' := u4'.trans u5
  have N5 := N.up u5'
  have GG5 := GG.up u5'
  have esm : (m.filter fun _ => true).map (fun n => PV.int (n : Nat)) = (m.map fun n : Nat => (n : Int)).map PV.int := by rw [PyProof.Rows.filter_true', List.map_map]; rfl
  have erp2 : (m.map replyL).map PV.str = m.map fun n => PV.str (replyL n) := by rw [List.map_map]; rfl
  have eb2 : ∀ l : List Int, (!decide (l = l)) = false := fun l => by simp
  have srd : ∀ n ∈ m, (((places n).reverse.map fib).sum = n) ∧ (∀ x ∈ (places n).reverse, x < 900) ∧ (places n).reverse.length < 100000 := fun n hn => by
    obtain ⟨-, -, a, b⟩ := num_ok (hm79 n hn)
    exact ⟨read_sum (hm79 n hn), fun x hx => by have := a x hx; lia, by lia⟩
  refine s_ifF (EvB.cast (eb2 (m.map fun n : Nat => (n : Int))) (evb_cmp (Ev.cast (congrArg PV.list esm) (ev_comp1 (xs := ["reply"]) (gs := ["_law_sum", "_law_read"]) (caps := []) (items := m) (fun n => [PV.str (replyL n)]) (fun _ => true) (fun n => PV.int (n : Nat)) (srcE_listT (fun n => PV.str (replyL n)) hh (Ev.cast (congrArg PV.list erp2) (ev_name (by walk_at "mem")))) e1 (by kernel_rfl) (by simp) (by lia) (by simp) (fun _ _ _ _ _ => evi_nil)
      (fun cenv ce n hn _ R => Ev.cast (by rw [(srd n hn).1]) (ev_callF (ev_glob GG5 (ce.gk kk) (by walk_at "mem") N5.oq.g.gs) N5.oq.g.ds (evl_cons (ev_callF (ev_glob GG5 (ce.gk kk) (by walk_at "mem") N5.oq.ga) N5.oq.da (evl_cons (ev_name (by walk_at "memz")) evl_nil) (read_of N5.oq GG5 rm.le (hm79 n hn))) evl_nil) (law_sum_cl N5.oq.g.ds N5.oq.g.f GG5 rm.le (srd n hn).2.1 (srd n hn).2.2)))))
      (Ev.cast (p := .list (nats m)) (by rw [nats_int]) (ev_name (by walk_at "mem"))) (cm_nints hu))) (.refl c5) F5 ?_
  intro c6 h6 t6 u6 F6
  have u6' := u5'.trans u6
  have N6 := N.up u6'
  have GG6 := GG.up u6'
  have c166 := F6.ex.no c16 h16
  have h166 := F6.ex.up _ _ h16
  have hB6 : ∀ q ∈ B2 hs tkk file z1 z2 vv, c6.get? q.1 = some q.2 := fun q hq => u6' _ _ (hB q hq)
  have lrp : ((m.map replyL).map PV.str).length = m.length := by simp
  have lso : (isortN m).length = m.length := (isortN_perm m).length_eq
  clear F2 F3 F4 F5
  refine wpAny_execs_cons (wpAny_If (wpAny_isTrue_Compare1 (comp_valX (caps := [("numbers", some (.list (nats m))), ("replies", some (.list ((m.map replyL).map .str)))]) (xs := ["reply"]) (xs0 := ["reply"]) (gs := []) (items := (isortN m).map fun n => [PV.str (replyL n)]) (fun _ ys => ys = (isortN m).map (fun n => PV.int (n : Nat))) (fun _ _ _ _ e => e)
    (fun c0 h0 => ∃ (G0 : Org) (kz b : Nat → Nat), G0.fn = true ∧ Fr G0 c0 env [("script", some (.list (ns.map .int))), ("drawn", some (.list (ds.map .int))), ("numbers", some (.list (nats m))), ("replies", some (.list ((m.map replyL).map .str))), ("due", none)] [] h0 ∧ (∀ c' ρ' R' h', Fr G0 c' env ρ' R' h' → Fr ⟨c, h, [16], true⟩ c' env ρ' R' h' ∧ Up c0 c' ∧ h'.get? 16 = some { cls := .none, data := .fields #[.int 4 0, .int 4 0, .ref (kz 2 + 100)] }) ∧ CodAt c0 file (vv 3) kz b ∧ Up c6 c0)
    F6 e1 (by kernel_rfl) (by simp) ⟨[], rfl⟩ (fun Q' E' kq => ?_) (fun c0 h0 T0 cenv D c1 h2 t2 I fp wr Si RR ce uc S hs F off kk2 => ?_) (fun c0 h0 T0 c7 D ys h7 t7 x7 nD dvD hys => ?_))))
  · refine r_fn GG6 kk (by walk_at "mem") N6.g2 N6.iq.dn (.refl _) F6 (args_cons (F6.ld (x := "replies") (by walk_at "mem") fun v dv => args_nil ⟨F6.up, ?_⟩))
    refine in_order_spec N6.iq hB6 GG6 F6.up c166 h166 rm dv (by rw [List.length_map]; lia) (replies_len hm79) fun c7 v7 h7 t7 kz b res x7 h167 cod d7 pm pw => ?_
    have F7 := F6.extX x7 ⟨_, _, h166, rfl⟩
    obtain ⟨G7, gf7, F7, back⟩ := F7.rebaseX h167 rfl
    rw [in_order_res hm pm pw, show ((isortN m).map replyL).map PV.str = (isortN m).map fun n => PV.str (replyL n) by rw [List.map_map]; rfl] at d7
    have em : ((isortN m).map fun n => PV.str (replyL n)).map (fun p => [p]) = (isortN m).map fun n => [PV.str (replyL n)] := by rw [List.map_map]; rfl
    exact list_go hh F7.up d7 fun I fp wr Si c8 h8 t8 x8 S hs hw => kq G7 c7 h7 I fp wr Si c8 h8 t8 F7 ⟨G7, kz, b, gf7, F7, back, cod, x7.cc⟩ x8 (by rw [← em]; exact S) hs hw
  · obtain ⟨G0, kz, b, gf0, F0, back, cod, u0⟩ := T0
    refine numbers_loop (by lia) ce S hs F off kk2 fun n hn R => ?_
    have hn' := (isortN_perm m).mem_iff.mp hn
    have hx := idx_reply (hm n hn') hm hn'
    exact ev_sub (ev_name (by walk_at "memz")) (ev_meth (ev_name (by walk_at "memz")) hp_index (evl_cons (ev_name (by walk_at "memz")) evl_nil) (cl_index (List.mem_map_of_mem hn') (by rw [List.length_map]; lia)))
      (it_item (i := (m.map replyL).idxOf (replyL n)) (by rw [nats, List.getElem?_map, hx]; rfl) (by have := (List.getElem?_eq_some_iff.mp hx).1; lia))
  · obtain ⟨G0, kz, b, gf0, F0, back, cod, u0⟩ := T0
    subst hys
    have F7 := F0.ext x7
    have U7 := u0.trans x7.cc
    have u7' := u6'.trans U7
    have N7 := N.up u7'
    have GG7 := GG.up u7'
    have eso : (isortN m).map (fun n => PV.int ((n : Nat) : Int)) = ((isortN m).map fun n : Nat => (n : Int)).map PV.int := by rw [List.map_map]; rfl
    rw [eso] at dvD
    refine (ev_callB (r := .list (((isortN m).map fun n : Nat => (n : Int)).map PV.int)) (ev_bi GG7 kk (by walk_at "mem") N7.n1) (evl_cons (Ev.cast (p := .list (nats m)) (q := .list ((m.map fun n : Nat => (n : Int)).map PV.int)) (by rw [nats_int]) (ev_name (by walk_at "mem"))) evl_nil) (cl_sortI (by rw [List.length_map]; lia) ((isortN_perm m).map _) ((isortN_sorted m).map _ fun a b hab => by lia))).use (.refl _) F7 fun c8 v8 h8 t8 x8 F8 d8 => ?_
    refine cm_nints hu c8 h8 _ _ F8.up (Den.up x8.cc _ dvD) d8 _ _ _ _ _ _ fun c9 v9 h9 t9 x9 d9 => ?_
    simp only [Den] at d9
    subst d9
    refine wpAny_truthy_bool ?_
    rw [if_neg (by simp)]
    refine wpAny_execs_nil ?_
    have F9 := F8.ext x9
    have u9' := (u7'.trans x8.cc).trans x9.cc
    have U9 := (x7.cc.trans x8.cc).trans x9.cc
    have N9 := N.up u9'
    have GG9 := GG.up u9'
    clear F7 F8
    obtain ⟨n0, nr, rfl⟩ : ∃ n0 nr, m = n0 :: nr := by
      cases m with
      | nil => simp at lno; lia
      | cons a r => exact ⟨a, r, rfl⟩
    have hl4 : (n0 :: nr).length ≤ 4 := by lia
    obtain ⟨q1, q2, q3⟩ := due_is hok hl4
    obtain ⟨s1, s2⟩ := all_small hm hl4
    refine s_asg (p := .str (replyL (vprod (n0 :: nr)).1)) (ev_callF (ev_glob GG9 kk (by walk_at "mem") N9.oq.gy) N9.oq.dy (evl_cons (Ev.cast (p := .int ((allSums (n0 :: nr)).map fib).sum) (congrArg (fun z : Nat => PV.int (z : Int)) q1) (ev_callF (ev_glob GG9 kk (by walk_at "mem") N9.oq.g.gs) N9.oq.g.ds (evl_cons (ev_callF (ev_glob GG9 kk (by walk_at "mem") N9.g3) N9.da (evl_cons (ev_name (by walk_at "mem")) evl_nil) (law_all_sums_cl N9.da N9.oq.g GG9 rm.le (fun n hn => ⟨hm79 n hn, by have := (small_places (hm n hn)).2; lia⟩) hl4)) evl_nil)
      (law_sum_cl N9.oq.g.ds N9.oq.g.f GG9 rm.le (fun x hx => by have := s2 x hx; lia) (by lia)))) evl_nil) (law_reply_cl N9.oq GG9 rm.le q3)) (.refl _) F9 (by walk_at "put") (fun c10 h10 t10 u10 F10 => ?_) gf0
    have u10' := u9'.trans u10
    have N10 := N.up u10'
    have GG10 := GG.up u10'
    have xr := reduce_all (prog := prog) (w := w) (A := B) N10.oq GG10 rm.le hok hl4
    clear q1 q2 s1 s2 srd hm79
    generalize hdue : replyL (vprod (n0 :: nr)).1 = due at *
    have ebt : decide (due = due) = true := by simp
    refine wpAny_execs_cons (wpAny_Return_some (BoolOp_and ((ev_cmp (ev_callD (ev_glob GG10 kk (by walk_at "mem") N10.oq.gr) N10.oq.dr (evl_cons (ev_glob GG10 kk (by walk_at "mem") N10.oq.gd) (evl_cons (ev_name (by walk_at "mem")) evl_nil)) xr) (ev_name (by walk_at "mem")) cm_seq).use (.refl _) F10 fun c11 v11 h11 t11 x11 F11 d11 => ?_)))
    rw [ebt] at d11
    refine tr_bool c11 h11 v11 F11.up d11 _ _ _ _ _ _ fun c12 h12 t12 x12 => ?_
    have F12 := F11.ext x12
    have u12' := (u10'.trans x11.cc).trans x12.cc
    have U12 := ((U9.trans u10).trans x11.cc).trans x12.cc
    have N12 := N.up u12'
    have GG12 := GG.up u12'
    obtain ⟨F12b, -, h1612⟩ := back _ _ _ _ F12
    have c1612 := F12b.ex.no c16 h16
    refine BoolOp_one (wpAny_Compare1 (r_fn GG12 kk (by walk_at "mem") N12.g4 N12.iq.dm (.refl _) F12 (args_cons (F12.ld (x := "replies") (by walk_at "mem") fun v dv => args_nil ⟨F12.up, ?_⟩))) rfl)
    refine melted_spec (vv := vv) (kz := kz) (bo := b) N12.iq N12.oq (fun q hq => u12' _ _ (hB q hq)) GG12 F12.up c1612 (cod.up U12) h1612 rm dv ⟨by simp, hl4⟩ hok fun c13 v13 h13 t13 x13 h1613 d13 => ?_
    rw [hdue] at d13
    have F13 := F12b.extX x13 ⟨_, _, h1612, rfl⟩
    refine (ev_name (x := "due") (p := .str due) (by walk_at "mem")).use (K := c13) (.refl _) F13 fun c14 v14 h14 t14 x14 F14 d14 => ?_
    refine cm_seq c14 h14 _ _ F14.up (Den.up x14.cc _ d13) d14 _ _ _ _ _ _ fun c15 v15 h15 t15 x15 d15 => ?_
    rw [ebt] at d15
    simp only [Den] at d15
    subst d15
    have xx := x14.trans x15
    exact hQf _ _ (k c15 h15 t15 ((F12b.ex.trans x13).trans xx.sub) ⟨_, xx.up _ _ h1613⟩)
end
end Mine
namespace Mine
open PySem PySem.W PyProof.Rows
noncomputable def cutK (K : Frag) (z : Addr) : Frag := K.filter fun q => q.1 != z
theorem cutK_in {K : Frag} {h : Heap} {z : Addr} (X : K.In h) : (cutK K z).In (hideAll h [z]) := fun a o e => by
  have key : ∀ K : Frag, (cutK K z).lookup a = some o → K.lookup a = some o ∧ a ≠ z := by
    intro K
    induction K with
    | nil => intro e; cases e
    | cons p K ih =>
      intro e
      obtain ⟨b, ob⟩ := p
      unfold cutK at e
      rw [List.filter_cons] at e
      split at e
      · rename_i hb
        rw [List.lookup_cons] at e ⊢
        split at e
        · rename_i hab
          have : a = b := eq_of_beq hab
          refine ⟨e, ?_⟩
          rw [this]; simpa using hb
        · exact ih e
      · rename_i hb
        obtain ⟨h1, h2⟩ := ih e
        have hb : b = z := by simpa using hb
        rw [List.lookup_cons]
        have : (a == b) = false := by rw [hb]; simpa using h2
        rw [this]
        exact ⟨h1, h2⟩
  obtain ⟨h1, h2⟩ := key K e
  exact hideAll_get _ (X a o h1) (by simpa using h2)
noncomputable def kO (K : Frag) (a : Addr) : Obj := (K.lookup a).getD { cls := .none }
noncomputable def fdOf (o : Obj) : FuncData := match o.data with
  | .func f => f
  | _ => { name := "", qualname := "", params := ⟨[], [], none, [], [], none, []⟩, body := .stmts [], scope := ⟨.function, [], false, false, []⟩, globals := 3, closure := [], closureTuple := .none, code := .none, defaults := .none, kwdefaults := .none }
noncomputable def esOf (o : Obj) : Array DictEntry := match o.data with
  | .dict es _ => es
  | _ => #[]
noncomputable def fsOf (o : Obj) : Array Value := match o.data with
  | .fields vs => vs
  | _ => #[]
noncomputable def isFn : Stmt → Bool
  | .FunctionDef .. => true
  | _ => false
noncomputable def keyTok (e : DictEntry) : Tok := match e.key with
  | .str _ t => t
  | _ => 0
noncomputable def strTok : Value → Tok
  | .str _ t => t
  | .int i _ => i.toNat
  | _ => 0
noncomputable def strOf' : Value → Str
  | .str x _ => x
  | _ => ""
section
variable {K : Frag} {c : Heap} {f : Addr} {st : Stmt}
theorem kO_get (X : K.In c) (e : K.lookup f = some (kO K f)) : c.get? f = some (kO K f) := X _ _ e
theorem isDef_K (X : K.In c) (hs : isFn st = true) (e : K.lookup f = some (kO K f))
    (ed : (kO K f).data = .func (fnOf (fdOf (kO K f)).name (fdOf (kO K f)).qualname (argsOf st) (bodyOf st) (scopeOf st) .none (fdOf (kO K f)).kwdefaults (fdOf (kO K f)).doc (fdOf (kO K f)).pyModule (fdOf (kO K f)).annotations (fdOf (kO K f)).code (fdOf (kO K f)).closureTuple))
    (hc : codeIn K (fdOf (kO K f)).code (fdOf (kO K f)).qualname = true) : IsDef c f st := by
  cases st with
  | FunctionDef n a b ds ret tp sc ts bd pos => exact ⟨_, _, _, _, _, _, _, _, _, kO_get X e, ed, codeRec_of X hc⟩
  | _ => cases hs
theorem isDefD_K (X : K.In c) {dV : Value} (hs : isFn st = true) (e : K.lookup f = some (kO K f))
    (ed : (kO K f).data = .func (fnOf (fdOf (kO K f)).name (fdOf (kO K f)).qualname (argsOf st) (bodyOf st) (scopeOf st) dV (fdOf (kO K f)).kwdefaults (fdOf (kO K f)).doc (fdOf (kO K f)).pyModule (fdOf (kO K f)).annotations (fdOf (kO K f)).code (fdOf (kO K f)).closureTuple))
    (hc : codeIn K (fdOf (kO K f)).code (fdOf (kO K f)).qualname = true) : IsDefD dV c f st := by
  cases st with
  | FunctionDef n a b ds ret tp sc ts bd pos => exact ⟨_, _, _, _, _, _, _, _, _, kO_get X e, ed, codeRec_of X hc⟩
  | _ => cases hs
theorem strKeys_of {es : Array DictEntry} (h : kmod_keyed es = true) : StrKeys es := fun e he => by
  have := List.all_eq_true.mp h e (by simpa using he)
  cases hk : e.key with
  | str x t => exact ⟨x, t, rfl⟩
  | _ => rw [hk] at this; cases this
theorem ns_K (X : K.In c) {ep : Nat} (e : K.lookup f = some (kO K f)) (ed : (kO K f).data = .dict (esOf (kO K f)) ep) (hk : kmod_keyed (esOf (kO K f)) = true) : c.Ns f (nsFind (esOf (kO K f))) :=
  ⟨_, _, ep, kO_get X e, ed, strKeys_of hk, fun _ => rfl⟩
theorem glb_K (X : K.In c) {nm bn : List (Str × Value)} {e3 e0 e2 : Nat} (g3 : K.lookup 3 = some (kO K 3)) (d3 : (kO K 3).data = .dict (esOf (kO K 3)) e3) (k3 : kmod_keyed (esOf (kO K 3)) = true)
    (g0 : K.lookup 0 = some (kO K 0)) (d0 : (kO K 0).data = .dict (esOf (kO K 0)) e0) (k0 : kmod_keyed (esOf (kO K 0)) = true) (g2 : K.lookup 2 = some (kO K 2)) (d2 : (kO K 2).data = .dict (esOf (kO K 2)) e2) (k2 : kmod_keyed (esOf (kO K 2)) = true)
    (hl : nsFind (esOf (kO K 2)) "sys.recursionlimit" = none) (hn : nm.map (fun p => nsFind (esOf (kO K 3)) p.1) = nm.map fun p => some p.2)
    (hb1 : bn.map (fun p => nsFind (esOf (kO K 3)) p.1) = bn.map fun _ => none) (hb2 : bn.map (fun p => nsFind (esOf (kO K 0)) p.1) = bn.map fun p => some p.2) : Glb c nm bn where
  ex := ⟨_, _, ns_K X g3 d3 k3, ns_K X g0 d0 k0, fun p hp => List.map_inj_left.mp hn p hp, fun p hp => ⟨List.map_inj_left.mp hb1 p hp, List.map_inj_left.mp hb2 p hp⟩⟩
  lim := ⟨_, ns_K X g2 d2 k2, hl⟩
/-- at f the fragment holds the def st -/
structure FnOk (K : Frag) (dV : Value) (f : Addr) (st : Stmt) : Prop where
  a : isFn st = true
  b : K.lookup f = some (kO K f)
  c : (kO K f).data = .func (fnOf (fdOf (kO K f)).name (fdOf (kO K f)).qualname (argsOf st) (bodyOf st) (scopeOf st) dV (fdOf (kO K f)).kwdefaults (fdOf (kO K f)).doc (fdOf (kO K f)).pyModule (fdOf (kO K f)).annotations (fdOf (kO K f)).code (fdOf (kO K f)).closureTuple)
  d : codeIn K (fdOf (kO K f)).code (fdOf (kO K f)).qualname = true
theorem FnOk.df (F : FnOk K .none f st) (X : K.In c) : IsDef c f st := isDef_K X F.a F.b F.c F.d
theorem FnOk.dfd {dV : Value} (F : FnOk K dV f st) (X : K.In c) : IsDefD dV c f st := isDefD_K X F.a F.b F.c F.d
/-- at a the fragment holds a names' dict -/
structure NsOk (K : Frag) (a : Addr) (ep : Nat) : Prop where
  g : K.lookup a = some (kO K a)
  dd : (kO K a).data = .dict (esOf (kO K a)) ep
  kk : kmod_keyed (esOf (kO K a)) = true
theorem mem_of_any {l : List (Str × Value)} {x : Str} {v : Value} (h : (l.any fun p => p.1 == x && p.2 == v) = true) : (x, v) ∈ l := by
  obtain ⟨p, hp, e⟩ := List.any_eq_true.mp h
  simp only [Bool.and_eq_true, beq_iff_eq] at e
  obtain ⟨e1, e2⟩ := e
  obtain ⟨q1, q2⟩ := p
  subst e1 e2
  exact hp
noncomputable def d3 (K : Frag) (i : Nat) : DictEntry := (esOf (kO K 3)).getD i ⟨0, .none, .none⟩
noncomputable def d2 (K : Frag) (i : Nat) : DictEntry := (esOf (kO K 2)).getD i ⟨0, .none, .none⟩
noncomputable def hs2 (K : Frag) (i : Nat) : Int := if i < 100 then (d3 K i).hash else (d2 K (i - 100)).hash
noncomputable def tk2 (K : Frag) (i : Nat) : Nat := if i < 100 then keyTok (d3 K i) else keyTok (d2 K (i - 100))
noncomputable def v2 (K : Frag) (i : Nat) : Nat := strTok ((fsOf (kO K 20)).getD ([0, 1, 2, 10, 16, 18].getD i 0) .none)
noncomputable def nm1 : List (Str × Value) := [("cmp_to_key", .ref 21), ("_initial_missing", .ref 22), ("reduce", .ref 30), ("parse257", .ref 62), ("heappush", .ref 69), ("heappop", .ref 76), ("heapify", .ref 83), ("_siftdown", .ref 90), ("_siftup", .ref 97), ("_law_numbers", .ref 104), ("_law_sum", .ref 109), ("_law_places", .ref 116), ("_law_reply", .ref 123), ("_law_step", .ref 130), ("_law_read", .ref 137), ("_law_product", .ref 142), ("_law_compare", .ref 149), ("_law_popped", .ref 154), ("_law_in_order", .ref 159), ("_law_melted", .ref 164), ("_law_as_worth", .ref 169), ("_law_all_sums", .ref 174)]
noncomputable def bn1 : List (Str × Value) := [("zip", .type "zip"), ("iter", .builtin "iter"), ("next", .builtin "next"), ("object", .type "object"), ("__build_class__", .builtin "__build_class__"), ("len", .builtin "len"), ("range", .type "range"), ("reversed", .type "reversed"), ("max", .builtin "max"), ("sum", .builtin "sum"), ("sorted", .builtin "sorted")]
theorem ends1 (X : K.In c) (f21 : FnOk K .none 21 (stm 1)) (f62 : FnOk K .none 62 (stm 7)) (f69 : FnOk K .none 69 (stm 9)) (f76 : FnOk K .none 76 (stm 10)) (f83 : FnOk K .none 83 (stm 11)) (f90 : FnOk K .none 90 (stm 12)) (f97 : FnOk K .none 97 (stm 13)) (f104 : FnOk K .none 104 (stm 15)) (f109 : FnOk K .none 109 (stm 16)) (f116 : FnOk K .none 116 (stm 17)) (f123 : FnOk K .none 123 (stm 18)) (f130 : FnOk K .none 130 (stm 19)) (f137 : FnOk K .none 137 (stm 20)) (f142 : FnOk K .none 142 (stm 21)) (f149 : FnOk K .none 149 (stm 22)) (f154 : FnOk K .none 154 (stm 23)) (f159 : FnOk K .none 159 (stm 24)) (f164 : FnOk K .none 164 (stm 25)) (f169 : FnOk K .none 169 (stm 26)) (f174 : FnOk K .none 174 (stm 27)) (f179 : FnOk K .none 179 (stm 28)) (f30 : FnOk K (.ref 23) 30 (stm 3))
    (k21 : (fdOf (kO K 21)).qualname = "cmp_to_key") (c21 : (fdOf (kO K 21)).code = .ref 20) (t23 : K.lookup 23 = some (kO K 23)) (u23 : (kO K 23).data = .seq #[.ref 22] 0) (t22 : K.lookup 22 = some (kO K 22)) (u22 : (kO K 22).cls = .type "object")
    (b3 : K.lookup 3 = some { cls := .type "dict", data := .dict (entsOf (hs2 K) (tk2 K) (glob2 (strOf' (d3 K 7).val) (strTok (d3 K 0).val) (strTok (d3 K 7).val)) 0).toArray 34 })
    (b4 : K.lookup 4 = some { cls := .type "module", dict := some 0, data := .plain })
    (b20 : K.lookup 20 = some { cls := .type "code", data := .fields #[.str "cmp_to_key" (v2 K 0), .str "cmp_to_key" (v2 K 1), .str (strOf' (d3 K 7).val) (v2 K 2), .int 2 0, .int 1 0, .int 0 0, .int 0 0, .int 3 0, .ref 15, .bool true, .int (v2 K 3) 0, .ref 16, .none, .ref 17, .ref 18, .ref 19, .int (v2 K 4) 0, .int 2 0, .str (strOf' (d3 K 7).val) (v2 K 5)] })
    (b2 : K.lookup 2 = some { cls := .none, data := .dict (entsOf (hs2 K) (tk2 K) [("type.__subclasses__.Exception.0", .int 40 0), ("type.__subclasses__.Exception.n", .int 1 0)] 100).toArray 2 })
    (n3 : NsOk K 3 34) (n0 : NsOk K 0 159) (n2 : NsOk K 2 2) (hl : nsFind (esOf (kO K 2)) "sys.recursionlimit" = none) (hn : nm1.map (fun p => nsFind (esOf (kO K 3)) p.1) = nm1.map fun p => some p.2)
    (hb1 : bn1.map (fun p => nsFind (esOf (kO K 3)) p.1) = bn1.map fun _ => none) (hb2 : bn1.map (fun p => nsFind (esOf (kO K 0)) p.1) = bn1.map fun p => some p.2) : LQ c nm1 bn1 23 22 ∧ Glb c nm1 bn1 ∧ ∀ q ∈ B2 (hs2 K) (tk2 K) (strOf' (d3 K 7).val) (strTok (d3 K 0).val) (strTok (d3 K 7).val) (v2 K), c.get? q.1 = some q.2 := by
  have ctk : IsCtk c := by
    have := f21.c
    rw [k21, c21] at this
    exact ⟨_, _, _, _, _, _, _, kO_get X f21.b, this⟩
  have hq : HQ c nm1 bn1 := ⟨f69.df X, f76.df X, f83.df X, f90.df X, f97.df X, mem_of_any rfl, mem_of_any rfl, mem_of_any rfl, mem_of_any rfl, mem_of_any rfl⟩
  have iq : IQ c nm1 bn1 := ⟨hq, f159.df X, f164.df X, f21.df X, ctk, f149.df X, f154.df X, mem_of_any rfl, mem_of_any rfl, mem_of_any rfl, mem_of_any rfl, mem_of_any rfl, mem_of_any rfl, mem_of_any rfl, mem_of_any rfl, mem_of_any rfl⟩
  have fq : FQ c nm1 bn1 := ⟨f104.df X, mem_of_any rfl, mem_of_any rfl, mem_of_any rfl, mem_of_any rfl, mem_of_any rfl⟩
  have gq : GQ c nm1 bn1 := ⟨fq, f116.df X, mem_of_any rfl, f109.df X, mem_of_any rfl⟩
  have oq : OQ c nm1 bn1 23 22 := ⟨gq, f130.df X, mem_of_any rfl, f137.df X, mem_of_any rfl, f62.df X, mem_of_any rfl, f30.dfd X, mem_of_any rfl, ⟨_, _, kO_get X t23, u23⟩, ⟨_, kO_get X t22, u22⟩, mem_of_any rfl, f123.df X, mem_of_any rfl, f142.df X, mem_of_any rfl, mem_of_any rfl, mem_of_any rfl⟩
  refine ⟨⟨iq, oq, f179.df X, f169.df X, f174.df X, mem_of_any rfl, mem_of_any rfl, mem_of_any rfl, mem_of_any rfl, mem_of_any rfl⟩, glb_K X n3.g n3.dd n3.kk n0.g n0.dd n0.kk n2.g n2.dd n2.kk hl hn hb1 hb2, fun q hq => ?_⟩
  unfold B2 at hq
  simp only [List.mem_cons, List.not_mem_nil, or_false] at hq
  rcases hq with rfl | rfl | rfl | rfl
  · exact X _ _ b3
  · exact X _ _ b4
  · exact X _ _ b20
  · exact X _ _ b2
end
theorem script_den {P : Params} {h c : Heap} {a : Addr} {ns : List Int} (w1 : Well P h (.ref a) (ofPy (PyData.list (ns.map PyData.int)))) : ∃ vs, h.get? a = some { cls := .type "list", data := .seq vs.toArray } ∧ DenL c vs (ns.map .int) := by
  have key : ∀ (ns : List Int) (vs : List Value), WellAll P h vs (ofPys (ns.map PyData.int)) → DenL c vs (ns.map .int) := by
    intro ns
    induction ns with
    | nil => intro vs h; cases h; simp [DenL]
    | cons n ns ih =>
      intro vs h
      cases h with
      | cons h1 h2 =>
        cases h1
        simp only [List.map_cons, DenL, Den]
        exact ⟨⟨_, rfl⟩, ih _ h2⟩
  cases w1 with
  | list e h => exact ⟨_, e, key ns _ h⟩
theorem oldK_16 {h h' : Heap} {o52 : Obj} {vs more : Array Value} (x : UpBut [16] h h') (e52 : h.get? 20 = some o52) (c52 : o52.cls = .type "code") (d52 : o52.data = .fields vs) (g52 : vs[11]? = some (.ref 16))
    (e48 : h.get? 16 = some { cls := .none, data := .fields #[] }) (e48' : h'.get? 16 = some { cls := .none, data := .fields more }) : OldK h h' := by
  refine ⟨fun b o e => ?_, fun b o e => ?_⟩
  · by_cases hb : b = 16
    · subst hb
      rw [e48] at e
      cases e
      exact .inr (.inl ⟨⟨20, o52, vs, e52, c52, d52, g52⟩, rfl, #[], more, rfl, by simpa using e48'⟩)
    · exact .inl (x b o (by simpa using hb) e)
  · by_cases hb : b = 16
    · subst hb; exact ⟨_, e48'⟩
    · exact ⟨o, x b o (by simpa using hb) e⟩
theorem rm_caller : Rm callerA 8 := ⟨rfl, by decide +kernel, by decide +kernel⟩
end Mine
namespace Mine
open PySem PySem.W PyProof.Rows
noncomputable def entG (P : Params) (x : Str) (t : Tok) (v : Value) : DictEntry := ⟨PyData.keyHash P x, .str x t, v⟩
/-- the ground objects that the law reaches; the second part keeps the head from writing a twin of them -/
noncomputable def quietT : {_l : Params → Frag // Str.ofString "q" = ⟨#[113]⟩} := ⟨fun P => [
  (0, { cls := (.type "dict"), dict := none, data := (.dict [entG P (.ofString "__name__") 1 (.str (.ofString "builtins") 160), entG P (.ofString "__doc__") 2 (.builtin "builtins.__doc__:str#opaque"), entG P (.ofString "__package__") 3 (.builtin "builtins.__package__:str#opaque"), entG P (.ofString "__loader__") 4 (.builtin "builtins.__loader__:shared#opaque"), entG P (.ofString "__spec__") 5 (.builtin "builtins.__spec__#opaque"), entG P (.ofString "__build_class__") 6 (.builtin "__build_class__"), entG P (.ofString "__import__") 7 (.builtin "__import__"), entG P (.ofString "abs") 8 (.builtin "abs"), entG P (.ofString "all") 9 (.builtin "all"), entG P (.ofString "any") 10 (.builtin "any"), entG P (.ofString "ascii") 11 (.builtin "ascii"), entG P (.ofString "bin") 12 (.builtin "bin"), entG P (.ofString "breakpoint") 13 (.builtin "breakpoint"), entG P (.ofString "callable") 14 (.builtin "callable"), entG P (.ofString "chr") 15 (.builtin "chr"), entG P (.ofString "compile") 16 (.builtin "compile"), entG P (.ofString "delattr") 17 (.builtin "delattr"), entG P (.ofString "dir") 18 (.builtin "dir"), entG P (.ofString "divmod") 19 (.builtin "divmod"), entG P (.ofString "eval") 20 (.builtin "eval"), entG P (.ofString "exec") 21 (.builtin "exec"), entG P (.ofString "format") 22 (.builtin "format"), entG P (.ofString "getattr") 23 (.builtin "getattr"), entG P (.ofString "globals") 24 (.builtin "globals"), entG P (.ofString "hasattr") 25 (.builtin "hasattr"), entG P (.ofString "hash") 26 (.builtin "hash"), entG P (.ofString "hex") 27 (.builtin "hex"), entG P (.ofString "id") 28 (.builtin "id"), entG P (.ofString "input") 29 (.builtin "input"), entG P (.ofString "isinstance") 30 (.builtin "isinstance"), entG P (.ofString "issubclass") 31 (.builtin "issubclass"), entG P (.ofString "iter") 32 (.builtin "iter"), entG P (.ofString "aiter") 33 (.builtin "aiter"), entG P (.ofString "len") 34 (.builtin "len"), entG P (.ofString "locals") 35 (.builtin "locals"), entG P (.ofString "max") 36 (.builtin "max"), entG P (.ofString "min") 37 (.builtin "min"), entG P (.ofString "next") 38 (.builtin "next"), entG P (.ofString "anext") 39 (.builtin "anext"), entG P (.ofString "oct") 40 (.builtin "oct"), entG P (.ofString "ord") 41 (.builtin "ord"), entG P (.ofString "pow") 42 (.builtin "pow"), entG P (.ofString "print") 43 (.builtin "print"), entG P (.ofString "repr") 44 (.builtin "repr"), entG P (.ofString "round") 45 (.builtin "round"), entG P (.ofString "setattr") 46 (.builtin "setattr"), entG P (.ofString "sorted") 47 (.builtin "sorted"), entG P (.ofString "sum") 48 (.builtin "sum"), entG P (.ofString "vars") 49 (.builtin "vars"), entG P (.ofString "None") 50 .none, entG P (.ofString "Ellipsis") 51 .ellipsis, entG P (.ofString "NotImplemented") 52 .notImplemented, entG P (.ofString "False") 53 (.bool false), entG P (.ofString "True") 54 (.bool true), entG P (.ofString "bool") 55 (.type "bool"), entG P (.ofString "memoryview") 56 (.type "memoryview"), entG P (.ofString "bytearray") 57 (.type "bytearray"), entG P (.ofString "bytes") 58 (.type "bytes"), entG P (.ofString "classmethod") 59 (.type "classmethod"), entG P (.ofString "complex") 60 (.type "complex"), entG P (.ofString "dict") 61 (.type "dict"), entG P (.ofString "enumerate") 62 (.type "enumerate"), entG P (.ofString "filter") 63 (.type "filter"), entG P (.ofString "float") 64 (.type "float"), entG P (.ofString "frozenset") 65 (.type "frozenset"), entG P (.ofString "property") 66 (.type "property"), entG P (.ofString "int") 67 (.type "int"), entG P (.ofString "list") 68 (.type "list"), entG P (.ofString "map") 69 (.type "map"), entG P (.ofString "object") 70 (.type "object"), entG P (.ofString "range") 71 (.type "range"), entG P (.ofString "reversed") 72 (.type "reversed"), entG P (.ofString "set") 73 (.type "set"), entG P (.ofString "slice") 74 (.type "slice"), entG P (.ofString "staticmethod") 75 (.type "staticmethod"), entG P (.ofString "str") 76 (.type "str"), entG P (.ofString "super") 77 (.type "super"), entG P (.ofString "tuple") 78 (.type "tuple"), entG P (.ofString "type") 79 (.type "type"), entG P (.ofString "zip") 80 (.type "zip"), entG P (.ofString "__debug__") 81 (.bool true), entG P (.ofString "BaseException") 82 (.type "BaseException"), entG P (.ofString "BaseExceptionGroup") 83 (.type "BaseExceptionGroup"), entG P (.ofString "Exception") 84 (.type "Exception"), entG P (.ofString "GeneratorExit") 85 (.type "GeneratorExit"), entG P (.ofString "KeyboardInterrupt") 86 (.type "KeyboardInterrupt"), entG P (.ofString "SystemExit") 87 (.type "SystemExit"), entG P (.ofString "ArithmeticError") 88 (.type "ArithmeticError"), entG P (.ofString "AssertionError") 89 (.type "AssertionError"), entG P (.ofString "AttributeError") 90 (.type "AttributeError"), entG P (.ofString "BufferError") 91 (.type "BufferError"), entG P (.ofString "EOFError") 92 (.type "EOFError"), entG P (.ofString "ImportError") 93 (.type "ImportError"), entG P (.ofString "LookupError") 94 (.type "LookupError"), entG P (.ofString "MemoryError") 95 (.type "MemoryError"), entG P (.ofString "NameError") 96 (.type "NameError"), entG P (.ofString "OSError") 97 (.type "OSError"), entG P (.ofString "ReferenceError") 98 (.type "ReferenceError"), entG P (.ofString "RuntimeError") 99 (.type "RuntimeError"), entG P (.ofString "StopAsyncIteration") 100 (.type "StopAsyncIteration"), entG P (.ofString "StopIteration") 101 (.type "StopIteration"), entG P (.ofString "SyntaxError") 102 (.type "SyntaxError"), entG P (.ofString "SystemError") 103 (.type "SystemError"), entG P (.ofString "TypeError") 104 (.type "TypeError"), entG P (.ofString "ValueError") 105 (.type "ValueError"), entG P (.ofString "Warning") 106 (.type "Warning"), entG P (.ofString "FloatingPointError") 107 (.type "FloatingPointError"), entG P (.ofString "OverflowError") 108 (.type "OverflowError"), entG P (.ofString "ZeroDivisionError") 109 (.type "ZeroDivisionError"), entG P (.ofString "BytesWarning") 110 (.type "BytesWarning"), entG P (.ofString "DeprecationWarning") 111 (.type "DeprecationWarning"), entG P (.ofString "EncodingWarning") 112 (.type "EncodingWarning"), entG P (.ofString "FutureWarning") 113 (.type "FutureWarning"), entG P (.ofString "ImportWarning") 114 (.type "ImportWarning"), entG P (.ofString "PendingDeprecationWarning") 115 (.type "PendingDeprecationWarning"), entG P (.ofString "ResourceWarning") 116 (.type "ResourceWarning"), entG P (.ofString "RuntimeWarning") 117 (.type "RuntimeWarning"), entG P (.ofString "SyntaxWarning") 118 (.type "SyntaxWarning"), entG P (.ofString "UnicodeWarning") 119 (.type "UnicodeWarning"), entG P (.ofString "UserWarning") 120 (.type "UserWarning"), entG P (.ofString "BlockingIOError") 121 (.type "BlockingIOError"), entG P (.ofString "ChildProcessError") 122 (.type "ChildProcessError"), entG P (.ofString "ConnectionError") 123 (.type "ConnectionError"), entG P (.ofString "FileExistsError") 124 (.type "FileExistsError"), entG P (.ofString "FileNotFoundError") 125 (.type "FileNotFoundError"), entG P (.ofString "InterruptedError") 126 (.type "InterruptedError"), entG P (.ofString "IsADirectoryError") 127 (.type "IsADirectoryError"), entG P (.ofString "NotADirectoryError") 128 (.type "NotADirectoryError"), entG P (.ofString "PermissionError") 129 (.type "PermissionError"), entG P (.ofString "ProcessLookupError") 130 (.type "ProcessLookupError"), entG P (.ofString "TimeoutError") 131 (.type "TimeoutError"), entG P (.ofString "IndentationError") 132 (.type "IndentationError"), entG P (.ofString "_IncompleteInputError") 133 (.type "_IncompleteInputError"), entG P (.ofString "IndexError") 134 (.type "IndexError"), entG P (.ofString "KeyError") 135 (.type "KeyError"), entG P (.ofString "ModuleNotFoundError") 136 (.type "ModuleNotFoundError"), entG P (.ofString "NotImplementedError") 137 (.type "NotImplementedError"), entG P (.ofString "PythonFinalizationError") 138 (.type "PythonFinalizationError"), entG P (.ofString "RecursionError") 139 (.type "RecursionError"), entG P (.ofString "UnboundLocalError") 140 (.type "UnboundLocalError"), entG P (.ofString "UnicodeError") 141 (.type "UnicodeError"), entG P (.ofString "BrokenPipeError") 142 (.type "BrokenPipeError"), entG P (.ofString "ConnectionAbortedError") 143 (.type "ConnectionAbortedError"), entG P (.ofString "ConnectionRefusedError") 144 (.type "ConnectionRefusedError"), entG P (.ofString "ConnectionResetError") 145 (.type "ConnectionResetError"), entG P (.ofString "TabError") 146 (.type "TabError"), entG P (.ofString "UnicodeDecodeError") 147 (.type "UnicodeDecodeError"), entG P (.ofString "UnicodeEncodeError") 148 (.type "UnicodeEncodeError"), entG P (.ofString "UnicodeTranslateError") 149 (.type "UnicodeTranslateError"), entG P (.ofString "ExceptionGroup") 150 (.type "ExceptionGroup"), entG P (.ofString "EnvironmentError") 151 (.type "OSError"), entG P (.ofString "IOError") 152 (.type "OSError"), entG P (.ofString "open") 153 (.builtin "open"), entG P (.ofString "quit") 154 (.builtin "builtins.quit#opaque"), entG P (.ofString "exit") 155 (.builtin "builtins.exit#opaque"), entG P (.ofString "copyright") 156 (.builtin "builtins.copyright#opaque"), entG P (.ofString "credits") 157 (.builtin "builtins.credits#opaque"), entG P (.ofString "license") 158 (.builtin "builtins.license#opaque"), entG P (.ofString "help") 159 (.builtin "builtins.help#opaque")].toArray 159) }),
  (2, { cls := .none, dict := none, data := (.dict [entG P (.ofString "type.__subclasses__.Exception.0") 229 (.int (40) 0), entG P (.ofString "type.__subclasses__.Exception.n") 230 (.int (1) 0)].toArray 2) }),
  (3, { cls := (.type "dict"), dict := none, data := (.dict [entG P (.ofString "__name__") 165 (.str (.ofString "law_oy0083_01") 313), entG P (.ofString "__doc__") 166 .none, entG P (.ofString "__package__") 167 .none, entG P (.ofString "__loader__") 168 (.builtin "__main__.__loader__#opaque"), entG P (.ofString "__spec__") 169 .none, entG P (.ofString "__annotations__") 170 (.ref 6), entG P (.ofString "__builtins__") 171 (.ref 4), entG P (.ofString "__file__") 173 (.str (.ofString "/claim/cut.py") 172), entG P (.ofString "__cached__") 174 .none, entG P (.ofString "cmp_to_key") 197 (.ref 21), entG P (.ofString "_initial_missing") 198 (.ref 22), entG P (.ofString "reduce") 210 (.ref 30), entG P (.ofString "Error") 232 (.ref 40), entG P (.ofString "error_reply") 248 (.ref 53), entG P (.ofString "parse257") 259 (.ref 62), entG P (.ofString "heappush") 269 (.ref 69), entG P (.ofString "heappop") 278 (.ref 76), entG P (.ofString "heapify") 287 (.ref 83), entG P (.ofString "_siftdown") 299 (.ref 90), entG P (.ofString "_siftup") 312 (.ref 97), entG P (.ofString "_law_numbers") 322 (.ref 104), entG P (.ofString "_law_sum") 328 (.ref 109), entG P (.ofString "_law_places") 338 (.ref 116), entG P (.ofString "_law_reply") 348 (.ref 123), entG P (.ofString "_law_step") 357 (.ref 130), entG P (.ofString "_law_read") 364 (.ref 137), entG P (.ofString "_law_product") 370 (.ref 142), entG P (.ofString "_law_compare") 378 (.ref 149), entG P (.ofString "_law_popped") 384 (.ref 154), entG P (.ofString "_law_in_order") 390 (.ref 159), entG P (.ofString "_law_melted") 396 (.ref 164), entG P (.ofString "_law_as_worth") 402 (.ref 169), entG P (.ofString "_law_all_sums") 408 (.ref 174), entG P (.ofString "law") 414 (.ref 179)].toArray 34) }),
  (4, { cls := (.type "module"), dict := some 0, data := .plain }),
  (16, { cls := .none, dict := none, data := (.fields #[]) }),
  (20, { cls := (.type "code"), dict := none, data := (.fields #[(.str (.ofString "cmp_to_key") 189), (.str (.ofString "cmp_to_key") 190), (.str (.ofString "/claim/cut.py") 191), (.int (2) 0), (.int (1) 0), (.int (0) 0), (.int (0) 0), (.int (3) 0), (.ref 15), (.bool true), (.int (181) 0), (.ref 16), .none, (.ref 17), (.ref 18), (.ref 19), (.int (195) 0), (.int (2) 0), (.str (.ofString "/claim/cut.py") 196)]) }),
  (21, { cls := (.type "function"), dict := none, data := (.func (fnOf (.ofString "cmp_to_key") (.ofString "cmp_to_key") (argsOf (stm 1)) (bodyOf (stm 1)) (scopeOf (stm 1)) .none .none .none (.str (.ofString "cpy313.functools") 187) none (.ref 20) .none)) }),
  (22, { cls := (.type "object"), dict := none, data := .plain }),
  (23, { cls := (.type "tuple"), dict := none, data := (.seq #[(.ref 22)] 0) }),
  (29, { cls := (.type "code"), dict := none, data := (.fields #[(.str (.ofString "reduce") 199), (.str (.ofString "reduce") 200), (.str (.ofString "/claim/cut.py") 201), (.int (28) 0), (.int (3) 0), (.int (0) 0), (.int (0) 0), (.int (3) 0), (.ref 24), (.bool true), (.int (181) 0), (.ref 25), .none, (.ref 26), (.ref 27), (.ref 28), (.int (208) 0), (.int (28) 0), (.str (.ofString "/claim/cut.py") 209)]) }),
  (30, { cls := (.type "function"), dict := none, data := (.func (fnOf (.ofString "reduce") (.ofString "reduce") (argsOf (stm 3)) (bodyOf (stm 3)) (scopeOf (stm 3)) (.ref 23) .none .none (.str (.ofString "cpy313.functools") 187) none (.ref 29) .none)) }),
  (61, { cls := (.type "code"), dict := none, data := (.fields #[(.str (.ofString "parse257") 249), (.str (.ofString "parse257") 250), (.str (.ofString "/claim/cut.py") 251), (.int (45) 0), (.int (1) 0), (.int (0) 0), (.int (0) 0), (.int (3) 0), (.ref 56), (.bool true), (.int (181) 0), (.ref 57), .none, (.ref 58), (.ref 59), (.ref 60), (.int (257) 0), (.int (45) 0), (.str (.ofString "/claim/cut.py") 258)]) }),
  (62, { cls := (.type "function"), dict := none, data := (.func (fnOf (.ofString "parse257") (.ofString "parse257") (argsOf (stm 7)) (bodyOf (stm 7)) (scopeOf (stm 7)) .none .none .none (.str (.ofString "cpy313.ftplib") 211) none (.ref 61) .none)) }),
  (68, { cls := (.type "code"), dict := none, data := (.fields #[(.str (.ofString "heappush") 262), (.str (.ofString "heappush") 263), (.str (.ofString "/claim/cut.py") 264), (.int (63) 0), (.int (2) 0), (.int (0) 0), (.int (0) 0), (.int (3) 0), (.ref 63), (.bool true), (.int (181) 0), (.ref 64), .none, (.ref 65), (.ref 66), (.ref 67), (.int (267) 0), (.int (63) 0), (.str (.ofString "/claim/cut.py") 268)]) }),
  (69, { cls := (.type "function"), dict := none, data := (.func (fnOf (.ofString "heappush") (.ofString "heappush") (argsOf (stm 9)) (bodyOf (stm 9)) (scopeOf (stm 9)) .none .none .none (.str (.ofString "cpy313.heapq") 260) none (.ref 68) .none)) }),
  (75, { cls := (.type "code"), dict := none, data := (.fields #[(.str (.ofString "heappop") 270), (.str (.ofString "heappop") 271), (.str (.ofString "/claim/cut.py") 272), (.int (66) 0), (.int (1) 0), (.int (0) 0), (.int (0) 0), (.int (3) 0), (.ref 70), (.bool true), (.int (181) 0), (.ref 71), .none, (.ref 72), (.ref 73), (.ref 74), (.int (276) 0), (.int (66) 0), (.str (.ofString "/claim/cut.py") 277)]) }),
  (76, { cls := (.type "function"), dict := none, data := (.func (fnOf (.ofString "heappop") (.ofString "heappop") (argsOf (stm 10)) (bodyOf (stm 10)) (scopeOf (stm 10)) .none .none .none (.str (.ofString "cpy313.heapq") 260) none (.ref 75) .none)) }),
  (82, { cls := (.type "code"), dict := none, data := (.fields #[(.str (.ofString "heapify") 279), (.str (.ofString "heapify") 280), (.str (.ofString "/claim/cut.py") 281), (.int (74) 0), (.int (1) 0), (.int (0) 0), (.int (0) 0), (.int (3) 0), (.ref 77), (.bool true), (.int (181) 0), (.ref 78), .none, (.ref 79), (.ref 80), (.ref 81), (.int (285) 0), (.int (74) 0), (.str (.ofString "/claim/cut.py") 286)]) }),
  (83, { cls := (.type "function"), dict := none, data := (.func (fnOf (.ofString "heapify") (.ofString "heapify") (argsOf (stm 11)) (bodyOf (stm 11)) (scopeOf (stm 11)) .none .none .none (.str (.ofString "cpy313.heapq") 260) none (.ref 82) .none)) }),
  (89, { cls := (.type "code"), dict := none, data := (.fields #[(.str (.ofString "_siftdown") 288), (.str (.ofString "_siftdown") 289), (.str (.ofString "/claim/cut.py") 290), (.int (78) 0), (.int (3) 0), (.int (0) 0), (.int (0) 0), (.int (3) 0), (.ref 84), (.bool true), (.int (181) 0), (.ref 85), .none, (.ref 86), (.ref 87), (.ref 88), (.int (297) 0), (.int (78) 0), (.str (.ofString "/claim/cut.py") 298)]) }),
  (90, { cls := (.type "function"), dict := none, data := (.func (fnOf (.ofString "_siftdown") (.ofString "_siftdown") (argsOf (stm 12)) (bodyOf (stm 12)) (scopeOf (stm 12)) .none .none .none (.str (.ofString "cpy313.heapq") 260) none (.ref 89) .none)) }),
  (96, { cls := (.type "code"), dict := none, data := (.fields #[(.str (.ofString "_siftup") 300), (.str (.ofString "_siftup") 301), (.str (.ofString "/claim/cut.py") 302), (.int (89) 0), (.int (2) 0), (.int (0) 0), (.int (0) 0), (.int (3) 0), (.ref 91), (.bool true), (.int (181) 0), (.ref 92), .none, (.ref 93), (.ref 94), (.ref 95), (.int (310) 0), (.int (89) 0), (.str (.ofString "/claim/cut.py") 311)]) }),
  (97, { cls := (.type "function"), dict := none, data := (.func (fnOf (.ofString "_siftup") (.ofString "_siftup") (argsOf (stm 13)) (bodyOf (stm 13)) (scopeOf (stm 13)) .none .none .none (.str (.ofString "cpy313.heapq") 260) none (.ref 96) .none)) }),
  (103, { cls := (.type "code"), dict := none, data := (.fields #[(.str (.ofString "_law_numbers") 315), (.str (.ofString "_law_numbers") 316), (.str (.ofString "/claim/cut.py") 317), (.int (104) 0), (.int (1) 0), (.int (0) 0), (.int (0) 0), (.int (3) 0), (.ref 98), (.bool true), (.int (181) 0), (.ref 99), .none, (.ref 100), (.ref 101), (.ref 102), (.int (320) 0), (.int (104) 0), (.str (.ofString "/claim/cut.py") 321)]) }),
  (104, { cls := (.type "function"), dict := none, data := (.func (fnOf (.ofString "_law_numbers") (.ofString "_law_numbers") (argsOf (stm 15)) (bodyOf (stm 15)) (scopeOf (stm 15)) .none .none .none (.str (.ofString "law_oy0083_01") 313) none (.ref 103) .none)) }),
  (108, { cls := (.type "code"), dict := none, data := (.fields #[(.str (.ofString "_law_sum") 323), (.str (.ofString "_law_sum") 324), (.str (.ofString "/claim/cut.py") 325), (.int (109) 0), (.int (1) 0), (.int (0) 0), (.int (0) 0), (.int (3) 0), (.ref 105), (.bool true), (.int (181) 0), (.ref 106), .none, .none, .none, (.ref 107), (.int (326) 0), (.int (109) 0), (.str (.ofString "/claim/cut.py") 327)]) }),
  (109, { cls := (.type "function"), dict := none, data := (.func (fnOf (.ofString "_law_sum") (.ofString "_law_sum") (argsOf (stm 16)) (bodyOf (stm 16)) (scopeOf (stm 16)) .none .none .none (.str (.ofString "law_oy0083_01") 313) none (.ref 108) .none)) }),
  (115, { cls := (.type "code"), dict := none, data := (.fields #[(.str (.ofString "_law_places") 329), (.str (.ofString "_law_places") 330), (.str (.ofString "/claim/cut.py") 331), (.int (112) 0), (.int (1) 0), (.int (0) 0), (.int (0) 0), (.int (3) 0), (.ref 110), (.bool true), (.int (181) 0), (.ref 111), .none, (.ref 112), (.ref 113), (.ref 114), (.int (336) 0), (.int (112) 0), (.str (.ofString "/claim/cut.py") 337)]) }),
  (116, { cls := (.type "function"), dict := none, data := (.func (fnOf (.ofString "_law_places") (.ofString "_law_places") (argsOf (stm 17)) (bodyOf (stm 17)) (scopeOf (stm 17)) .none .none .none (.str (.ofString "law_oy0083_01") 313) none (.ref 115) .none)) }),
  (122, { cls := (.type "code"), dict := none, data := (.fields #[(.str (.ofString "_law_reply") 339), (.str (.ofString "_law_reply") 340), (.str (.ofString "/claim/cut.py") 341), (.int (122) 0), (.int (1) 0), (.int (0) 0), (.int (0) 0), (.int (3) 0), (.ref 117), (.bool true), (.int (181) 0), (.ref 118), .none, (.ref 119), (.ref 120), (.ref 121), (.int (346) 0), (.int (122) 0), (.str (.ofString "/claim/cut.py") 347)]) }),
  (123, { cls := (.type "function"), dict := none, data := (.func (fnOf (.ofString "_law_reply") (.ofString "_law_reply") (argsOf (stm 18)) (bodyOf (stm 18)) (scopeOf (stm 18)) .none .none .none (.str (.ofString "law_oy0083_01") 313) none (.ref 122) .none)) }),
  (129, { cls := (.type "code"), dict := none, data := (.fields #[(.str (.ofString "_law_step") 349), (.str (.ofString "_law_step") 350), (.str (.ofString "/claim/cut.py") 351), (.int (130) 0), (.int (2) 0), (.int (0) 0), (.int (0) 0), (.int (3) 0), (.ref 124), (.bool true), (.int (181) 0), (.ref 125), .none, (.ref 126), (.ref 127), (.ref 128), (.int (355) 0), (.int (130) 0), (.str (.ofString "/claim/cut.py") 356)]) }),
  (130, { cls := (.type "function"), dict := none, data := (.func (fnOf (.ofString "_law_step") (.ofString "_law_step") (argsOf (stm 19)) (bodyOf (stm 19)) (scopeOf (stm 19)) .none .none .none (.str (.ofString "law_oy0083_01") 313) none (.ref 129) .none)) }),
  (136, { cls := (.type "code"), dict := none, data := (.fields #[(.str (.ofString "_law_read") 358), (.str (.ofString "_law_read") 359), (.str (.ofString "/claim/cut.py") 360), (.int (133) 0), (.int (1) 0), (.int (0) 0), (.int (0) 0), (.int (3) 0), (.ref 131), (.bool true), (.int (181) 0), (.ref 132), .none, (.ref 133), (.ref 134), (.ref 135), (.int (362) 0), (.int (133) 0), (.str (.ofString "/claim/cut.py") 363)]) }),
  (137, { cls := (.type "function"), dict := none, data := (.func (fnOf (.ofString "_law_read") (.ofString "_law_read") (argsOf (stm 20)) (bodyOf (stm 20)) (scopeOf (stm 20)) .none .none .none (.str (.ofString "law_oy0083_01") 313) none (.ref 136) .none)) }),
  (141, { cls := (.type "code"), dict := none, data := (.fields #[(.str (.ofString "_law_product") 365), (.str (.ofString "_law_product") 366), (.str (.ofString "/claim/cut.py") 367), (.int (135) 0), (.int (2) 0), (.int (0) 0), (.int (0) 0), (.int (3) 0), (.ref 138), (.bool true), (.int (181) 0), (.ref 139), .none, .none, .none, (.ref 140), (.int (368) 0), (.int (135) 0), (.str (.ofString "/claim/cut.py") 369)]) }),
  (142, { cls := (.type "function"), dict := none, data := (.func (fnOf (.ofString "_law_product") (.ofString "_law_product") (argsOf (stm 21)) (bodyOf (stm 21)) (scopeOf (stm 21)) .none .none .none (.str (.ofString "law_oy0083_01") 313) none (.ref 141) .none)) }),
  (148, { cls := (.type "code"), dict := none, data := (.fields #[(.str (.ofString "_law_compare") 371), (.str (.ofString "_law_compare") 372), (.str (.ofString "/claim/cut.py") 373), (.int (139) 0), (.int (2) 0), (.int (0) 0), (.int (0) 0), (.int (3) 0), (.ref 143), (.bool true), (.int (181) 0), (.ref 144), .none, (.ref 145), (.ref 146), (.ref 147), (.int (376) 0), (.int (139) 0), (.str (.ofString "/claim/cut.py") 377)]) }),
  (149, { cls := (.type "function"), dict := none, data := (.func (fnOf (.ofString "_law_compare") (.ofString "_law_compare") (argsOf (stm 22)) (bodyOf (stm 22)) (scopeOf (stm 22)) .none .none .none (.str (.ofString "law_oy0083_01") 313) none (.ref 148) .none)) }),
  (153, { cls := (.type "code"), dict := none, data := (.fields #[(.str (.ofString "_law_popped") 379), (.str (.ofString "_law_popped") 380), (.str (.ofString "/claim/cut.py") 381), (.int (141) 0), (.int (3) 0), (.int (0) 0), (.int (0) 0), (.int (3) 0), (.ref 150), (.bool true), (.int (181) 0), (.ref 151), .none, .none, .none, (.ref 152), (.int (382) 0), (.int (141) 0), (.str (.ofString "/claim/cut.py") 383)]) }),
  (154, { cls := (.type "function"), dict := none, data := (.func (fnOf (.ofString "_law_popped") (.ofString "_law_popped") (argsOf (stm 23)) (bodyOf (stm 23)) (scopeOf (stm 23)) .none .none .none (.str (.ofString "law_oy0083_01") 313) none (.ref 153) .none)) }),
  (158, { cls := (.type "code"), dict := none, data := (.fields #[(.str (.ofString "_law_in_order") 385), (.str (.ofString "_law_in_order") 386), (.str (.ofString "/claim/cut.py") 387), (.int (144) 0), (.int (1) 0), (.int (0) 0), (.int (0) 0), (.int (3) 0), (.ref 155), (.bool true), (.int (181) 0), (.ref 156), .none, .none, .none, (.ref 157), (.int (388) 0), (.int (144) 0), (.str (.ofString "/claim/cut.py") 389)]) }),
  (159, { cls := (.type "function"), dict := none, data := (.func (fnOf (.ofString "_law_in_order") (.ofString "_law_in_order") (argsOf (stm 24)) (bodyOf (stm 24)) (scopeOf (stm 24)) .none .none .none (.str (.ofString "law_oy0083_01") 313) none (.ref 158) .none)) }),
  (163, { cls := (.type "code"), dict := none, data := (.fields #[(.str (.ofString "_law_melted") 391), (.str (.ofString "_law_melted") 392), (.str (.ofString "/claim/cut.py") 393), (.int (153) 0), (.int (1) 0), (.int (0) 0), (.int (0) 0), (.int (3) 0), (.ref 160), (.bool true), (.int (181) 0), (.ref 161), .none, .none, .none, (.ref 162), (.int (394) 0), (.int (153) 0), (.str (.ofString "/claim/cut.py") 395)]) }),
  (164, { cls := (.type "function"), dict := none, data := (.func (fnOf (.ofString "_law_melted") (.ofString "_law_melted") (argsOf (stm 25)) (bodyOf (stm 25)) (scopeOf (stm 25)) .none .none .none (.str (.ofString "law_oy0083_01") 313) none (.ref 163) .none)) }),
  (168, { cls := (.type "code"), dict := none, data := (.fields #[(.str (.ofString "_law_as_worth") 397), (.str (.ofString "_law_as_worth") 398), (.str (.ofString "/claim/cut.py") 399), (.int (164) 0), (.int (1) 0), (.int (0) 0), (.int (0) 0), (.int (3) 0), (.ref 165), (.bool true), (.int (181) 0), (.ref 166), .none, .none, .none, (.ref 167), (.int (400) 0), (.int (164) 0), (.str (.ofString "/claim/cut.py") 401)]) }),
  (169, { cls := (.type "function"), dict := none, data := (.func (fnOf (.ofString "_law_as_worth") (.ofString "_law_as_worth") (argsOf (stm 26)) (bodyOf (stm 26)) (scopeOf (stm 26)) .none .none .none (.str (.ofString "law_oy0083_01") 313) none (.ref 168) .none)) }),
  (173, { cls := (.type "code"), dict := none, data := (.fields #[(.str (.ofString "_law_all_sums") 403), (.str (.ofString "_law_all_sums") 404), (.str (.ofString "/claim/cut.py") 405), (.int (169) 0), (.int (1) 0), (.int (0) 0), (.int (0) 0), (.int (3) 0), (.ref 170), (.bool true), (.int (181) 0), (.ref 171), .none, .none, .none, (.ref 172), (.int (406) 0), (.int (169) 0), (.str (.ofString "/claim/cut.py") 407)]) }),
  (174, { cls := (.type "function"), dict := none, data := (.func (fnOf (.ofString "_law_all_sums") (.ofString "_law_all_sums") (argsOf (stm 27)) (bodyOf (stm 27)) (scopeOf (stm 27)) .none .none .none (.str (.ofString "law_oy0083_01") 313) none (.ref 173) .none)) }),
  (178, { cls := (.type "code"), dict := none, data := (.fields #[(.str (.ofString "law") 409), (.str (.ofString "law") 410), (.str (.ofString "/claim/cut.py") 411), (.int (175) 0), (.int (1) 0), (.int (0) 0), (.int (0) 0), (.int (3) 0), (.ref 175), (.bool true), (.int (181) 0), (.ref 176), .none, .none, .none, (.ref 177), (.int (412) 0), (.int (175) 0), (.str (.ofString "/claim/cut.py") 413)]) }),
  (179, { cls := (.type "function"), dict := none, data := (.func (fnOf (.ofString "law") (.ofString "law") (argsOf (stm 28)) (bodyOf (stm 28)) (scopeOf (stm 28)) .none .none .none (.str (.ofString "law_oy0083_01") 313) none (.ref 178) .none)) })], by kernel_rfl⟩
noncomputable def groundA : List Addr := [0, 2, 3, 4, 16, 20, 21, 22, 23, 29, 30, 61, 62, 68, 69, 75, 76, 82, 83, 89, 90, 96, 97, 103, 104, 108, 109, 115, 116, 122, 123, 129, 130, 136, 137, 141, 142, 148, 149, 153, 154, 158, 159, 163, 164, 168, 169, 173, 174, 178, 179]
noncomputable def groundK : Params → Frag := quietT.1
end Mine
namespace Mine
open PySem PySem.W PySem.W.X PyProof.Rows
/-- the heap of the state ahead, with these objects laid over it -/
noncomputable def layT (t : BT) (l : List (Nat × Obj)) : BT := l.foldl (fun t r => t.ins r.1 r.2) t
noncomputable def fnAt (g : Addr) (i : Nat) (x : Str) (dV pm cdv : Value) : FuncData := { name := x, qualname := x, params := argsOf (stm i), body := .stmts (bodyOf (stm i)), scope := scopeOf (stm i), globals := g, closure := [], defaults := dV, kwdefaults := .none, doc := .none, pyModule := pm, annotations := none, code := cdv, closureTuple := .none, builtins := builtinsNs }
noncomputable def hT1_0 (P : Params) : BT := layT (layT .nil ((boot_heap P).objs.toList.zipIdx.map fun r => (r.2, r.1))) [
  (11, { cls := (.type "tuple"), dict := none, data := (.seq #[] 0) }),
  (12, { cls := .none, dict := none, data := (.fields #[]) }),
  (13, { cls := (.type "code"), dict := none, data := (.fields #[(.str (.ofString "<module>") 182), (.str (.ofString "<module>") 183), (.str (.ofString "/claim/cut.py") 184), (.int (1) 0), (.int (0) 0), (.int (0) 0), (.int (0) 0), (.int (0) 0), (.ref 11), (.bool false), (.int (181) 0), (.ref 12), .none, .none, .none, .none, (.int (185) 0), (.int (1) 0), (.str (.ofString "/claim/cut.py") 186)]) }),
  (14, { cls := (.type "frame"), dict := none, data := .plain, slots := #[(some (.ref 13)), (some (.ref 3)), (some (.ref 3)), none, (some (.str (.ofString "__main__") 164)), none, (some (.ref 0))] })]
noncomputable def hT1_1 (P : Params) : BT := layT (hT1_0 P) [
  (3, { cls := (.type "dict"), dict := none, data := (.dict ([entG P (.ofString "__name__") 165 (.str (.ofString "cpy313.ftplib") 211), entG P (.ofString "__doc__") 166 .none, entG P (.ofString "__package__") 167 .none, entG P (.ofString "__loader__") 168 (.builtin "__main__.__loader__#opaque"), entG P (.ofString "__spec__") 169 .none, entG P (.ofString "__annotations__") 170 (.ref 6), entG P (.ofString "__builtins__") 171 (.ref 4), entG P (.ofString "__file__") 173 (.str (.ofString "/claim/cut.py") 172), entG P (.ofString "__cached__") 174 .none, entG P (.ofString "cmp_to_key") 197 (.ref 21), entG P (.ofString "_initial_missing") 198 (.ref 22), entG P (.ofString "reduce") 210 (.ref 30)]).toArray 12) }),
  (12, { cls := .none, dict := none, data := (.fields #[(.int (2) 0), (.int (0) 0), (.ref 20), (.int (28) 0), (.int (0) 0), (.ref 29)]) }),
  (15, { cls := (.type "tuple"), dict := none, data := (.seq #[] 0) }),
  (16, { cls := .none, dict := none, data := (.fields #[]) }),
  (17, { cls := (.type "tuple"), dict := none, data := (.seq #[(.str (.ofString "mycmp") 192), (.str (.ofString "K") 193)] 0) }),
  (18, { cls := (.type "tuple"), dict := none, data := (.seq #[(.str (.ofString "mycmp") 194)] 0) }),
  (19, { cls := .none, dict := none, data := (.func (fnAt 0 1 (.ofString "cmp_to_key") .none .none .none)) }),
  (20, { cls := (.type "code"), dict := none, data := (.fields #[(.str (.ofString "cmp_to_key") 189), (.str (.ofString "cmp_to_key") 190), (.str (.ofString "/claim/cut.py") 191), (.int (2) 0), (.int (1) 0), (.int (0) 0), (.int (0) 0), (.int (3) 0), (.ref 15), (.bool true), (.int (181) 0), (.ref 16), .none, (.ref 17), (.ref 18), (.ref 19), (.int (195) 0), (.int (2) 0), (.str (.ofString "/claim/cut.py") 196)]) }),
  (21, { cls := (.type "function"), dict := none, data := (.func (fnAt 3 1 (.ofString "cmp_to_key") .none (.str (.ofString "cpy313.functools") 187) (.ref 20))) }),
  (22, { cls := (.type "object"), dict := none, data := .plain }),
  (23, { cls := (.type "tuple"), dict := none, data := (.seq #[(.ref 22)] 0) }),
  (24, { cls := (.type "tuple"), dict := none, data := (.seq #[] 0) }),
  (25, { cls := .none, dict := none, data := (.fields #[]) }),
  (26, { cls := (.type "tuple"), dict := none, data := (.seq #[(.str (.ofString "function") 202), (.str (.ofString "sequence") 203), (.str (.ofString "initial") 204), (.str (.ofString "it") 205), (.str (.ofString "value") 206), (.str (.ofString "element") 207)] 0) }),
  (27, { cls := (.type "tuple"), dict := none, data := (.seq #[] 0) }),
  (28, { cls := .none, dict := none, data := (.func (fnAt 0 3 (.ofString "reduce") .none .none .none)) }),
  (29, { cls := (.type "code"), dict := none, data := (.fields #[(.str (.ofString "reduce") 199), (.str (.ofString "reduce") 200), (.str (.ofString "/claim/cut.py") 201), (.int (28) 0), (.int (3) 0), (.int (0) 0), (.int (0) 0), (.int (3) 0), (.ref 24), (.bool true), (.int (181) 0), (.ref 25), .none, (.ref 26), (.ref 27), (.ref 28), (.int (208) 0), (.int (28) 0), (.str (.ofString "/claim/cut.py") 209)]) }),
  (30, { cls := (.type "function"), dict := none, data := (.func (fnAt 3 3 (.ofString "reduce") (.ref 23) (.str (.ofString "cpy313.functools") 187) (.ref 29))) })]
noncomputable def hT1_2 (P : Params) : BT := layT (hT1_1 P) [
  (2, { cls := .none, dict := none, data := (.dict ([entG P (.ofString "type.__subclasses__.Exception.0") 229 (.int (40) 0), entG P (.ofString "type.__subclasses__.Exception.n") 230 (.int (1) 0)]).toArray 2) }),
  (3, { cls := (.type "dict"), dict := none, data := (.dict ([entG P (.ofString "__name__") 165 (.str (.ofString "cpy313.ftplib") 211), entG P (.ofString "__doc__") 166 .none, entG P (.ofString "__package__") 167 .none, entG P (.ofString "__loader__") 168 (.builtin "__main__.__loader__#opaque"), entG P (.ofString "__spec__") 169 .none, entG P (.ofString "__annotations__") 170 (.ref 6), entG P (.ofString "__builtins__") 171 (.ref 4), entG P (.ofString "__file__") 173 (.str (.ofString "/claim/cut.py") 172), entG P (.ofString "__cached__") 174 .none, entG P (.ofString "cmp_to_key") 197 (.ref 21), entG P (.ofString "_initial_missing") 198 (.ref 22), entG P (.ofString "reduce") 210 (.ref 30), entG P (.ofString "Error") 232 (.ref 40)]).toArray 13) }),
  (12, { cls := .none, dict := none, data := (.fields #[(.int (2) 0), (.int (0) 0), (.ref 20), (.int (28) 0), (.int (0) 0), (.ref 29), (.int (41) 0), (.int (0) 0), (.ref 36)]) }),
  (31, { cls := (.type "tuple"), dict := none, data := (.seq #[(.type "Exception")] 0) }),
  (32, { cls := (.type "builtin_function_or_method"), dict := none, data := (.fields #[(.builtin "type.__prepare__"), (.type "type")]) }),
  (33, { cls := (.type "dict"), dict := none, data := (.dict ([entG P (.ofString "__module__") 220 (.str (.ofString "cpy313.ftplib") 211), entG P (.ofString "__qualname__") 222 (.str (.ofString "Error") 221), entG P (.ofString "__firstlineno__") 224 (.int (41) 223), entG P (.ofString "__static_attributes__") 225 (.ref 38)]).toArray 4) }),
  (34, { cls := (.type "tuple"), dict := none, data := (.seq #[] 0) }),
  (35, { cls := .none, dict := none, data := (.fields #[]) }),
  (36, { cls := (.type "code"), dict := none, data := (.fields #[(.str (.ofString "Error") 215), (.str (.ofString "Error") 216), (.str (.ofString "/claim/cut.py") 217), (.int (41) 0), (.int (0) 0), (.int (0) 0), (.int (0) 0), (.int (0) 0), (.ref 34), (.bool false), (.int (181) 0), (.ref 35), .none, .none, .none, .none, (.int (218) 0), (.int (41) 0), (.str (.ofString "/claim/cut.py") 219)]) }),
  (37, { cls := (.type "frame"), dict := none, data := .plain, slots := #[(some (.ref 36)), (some (.ref 3)), (some (.ref 33)), none, (some (.str (.ofString "cpy313.ftplib") 211)), none, (some (.ref 0))] }),
  (38, { cls := (.type "tuple"), dict := none, data := (.seq #[] 0) }),
  (39, { cls := (.type "dict"), dict := none, data := (.dict ([entG P (.ofString "__module__") 220 (.str (.ofString "cpy313.ftplib") 211), entG P (.ofString "__firstlineno__") 224 (.int (41) 223), entG P (.ofString "__static_attributes__") 225 (.ref 38), entG P (.ofString "__weakref__") 227 (.ref 41), entG P (.ofString "__doc__") 228 .none]).toArray 3) }),
  (40, { cls := (.type "type"), dict := none, data := (.cls ⟨(.ofString "Error"), [(.type "Exception")], [(.ref 40), (.type "Exception"), (.type "BaseException"), (.type "object")], 39, (.ofString "Error"), true, [], [], false, none, false⟩), slots := #[(some (.ref 31)), none, (some (.str (.ofString "Error") 213)), (some (.str (.ofString "Error") 221)), (some (.builtin "Exception.__new__")), (some (.bool true))] }),
  (41, { cls := (.type "getset_descriptor"), dict := none, data := (.fields #[(.str (.ofString "__weakref__") 226), (.ref 40), (.builtin "ExceptionGroup.__weakref__"), .none]) }),
  (42, { cls := (.type "super"), dict := none, data := (.fields #[(.ref 40), (.ref 40), (.ref 40)]) }),
  (43, { cls := (.type "builtin_function_or_method"), dict := none, data := (.fields #[(.builtin "object.__init_subclass__"), (.ref 40)]) })]
noncomputable def hT1_3 (P : Params) : BT := layT (hT1_2 P) [
  (3, { cls := (.type "dict"), dict := none, data := (.dict ([entG P (.ofString "__name__") 165 (.str (.ofString "cpy313.ftplib") 211), entG P (.ofString "__doc__") 166 .none, entG P (.ofString "__package__") 167 .none, entG P (.ofString "__loader__") 168 (.builtin "__main__.__loader__#opaque"), entG P (.ofString "__spec__") 169 .none, entG P (.ofString "__annotations__") 170 (.ref 6), entG P (.ofString "__builtins__") 171 (.ref 4), entG P (.ofString "__file__") 173 (.str (.ofString "/claim/cut.py") 172), entG P (.ofString "__cached__") 174 .none, entG P (.ofString "cmp_to_key") 197 (.ref 21), entG P (.ofString "_initial_missing") 198 (.ref 22), entG P (.ofString "reduce") 210 (.ref 30), entG P (.ofString "Error") 232 (.ref 40), entG P (.ofString "error_reply") 248 (.ref 53)]).toArray 14) }),
  (12, { cls := .none, dict := none, data := (.fields #[(.int (2) 0), (.int (0) 0), (.ref 20), (.int (28) 0), (.int (0) 0), (.ref 29), (.int (41) 0), (.int (0) 0), (.ref 36), (.int (43) 0), (.int (0) 0), (.ref 49)]) }),
  (40, { cls := (.type "type"), dict := none, data := (.cls ⟨(.ofString "Error"), [(.type "Exception")], [(.ref 40), (.type "Exception"), (.type "BaseException"), (.type "object")], 39, (.ofString "Error"), true, [], [(.ref 53)], false, none, false⟩), slots := #[(some (.ref 31)), none, (some (.str (.ofString "Error") 213)), (some (.str (.ofString "Error") 221)), (some (.builtin "Exception.__new__")), (some (.bool true))] }),
  (44, { cls := (.type "tuple"), dict := none, data := (.seq #[(.ref 40)] 0) }),
  (45, { cls := (.type "builtin_function_or_method"), dict := none, data := (.fields #[(.builtin "type.__prepare__"), (.type "type")]) }),
  (46, { cls := (.type "dict"), dict := none, data := (.dict ([entG P (.ofString "__module__") 240 (.str (.ofString "cpy313.ftplib") 211), entG P (.ofString "__qualname__") 242 (.str (.ofString "error_reply") 241), entG P (.ofString "__firstlineno__") 244 (.int (43) 243), entG P (.ofString "__static_attributes__") 245 (.ref 51)]).toArray 4) }),
  (47, { cls := (.type "tuple"), dict := none, data := (.seq #[] 0) }),
  (48, { cls := .none, dict := none, data := (.fields #[]) }),
  (49, { cls := (.type "code"), dict := none, data := (.fields #[(.str (.ofString "error_reply") 235), (.str (.ofString "error_reply") 236), (.str (.ofString "/claim/cut.py") 237), (.int (43) 0), (.int (0) 0), (.int (0) 0), (.int (0) 0), (.int (0) 0), (.ref 47), (.bool false), (.int (181) 0), (.ref 48), .none, .none, .none, .none, (.int (238) 0), (.int (43) 0), (.str (.ofString "/claim/cut.py") 239)]) }),
  (50, { cls := (.type "frame"), dict := none, data := .plain, slots := #[(some (.ref 49)), (some (.ref 3)), (some (.ref 46)), none, (some (.str (.ofString "cpy313.ftplib") 211)), none, (some (.ref 0))] }),
  (51, { cls := (.type "tuple"), dict := none, data := (.seq #[] 0) }),
  (52, { cls := (.type "dict"), dict := none, data := (.dict ([entG P (.ofString "__module__") 240 (.str (.ofString "cpy313.ftplib") 211), entG P (.ofString "__firstlineno__") 244 (.int (43) 243), entG P (.ofString "__static_attributes__") 245 (.ref 51), entG P (.ofString "__doc__") 246 .none]).toArray 2) }),
  (53, { cls := (.type "type"), dict := none, data := (.cls ⟨(.ofString "error_reply"), [(.ref 40)], [(.ref 53), (.ref 40), (.type "Exception"), (.type "BaseException"), (.type "object")], 52, (.ofString "error_reply"), true, [], [], false, none, false⟩), slots := #[(some (.ref 44)), none, (some (.str (.ofString "error_reply") 233)), (some (.str (.ofString "error_reply") 241)), (some (.builtin "Exception.__new__")), (some (.bool true))] }),
  (54, { cls := (.type "super"), dict := none, data := (.fields #[(.ref 53), (.ref 53), (.ref 53)]) }),
  (55, { cls := (.type "builtin_function_or_method"), dict := none, data := (.fields #[(.builtin "object.__init_subclass__"), (.ref 53)]) })]
noncomputable def hT1_4 (P : Params) : BT := layT (hT1_3 P) [
  (3, { cls := (.type "dict"), dict := none, data := (.dict ([entG P (.ofString "__name__") 165 (.str (.ofString "cpy313.heapq") 260), entG P (.ofString "__doc__") 166 .none, entG P (.ofString "__package__") 167 .none, entG P (.ofString "__loader__") 168 (.builtin "__main__.__loader__#opaque"), entG P (.ofString "__spec__") 169 .none, entG P (.ofString "__annotations__") 170 (.ref 6), entG P (.ofString "__builtins__") 171 (.ref 4), entG P (.ofString "__file__") 173 (.str (.ofString "/claim/cut.py") 172), entG P (.ofString "__cached__") 174 .none, entG P (.ofString "cmp_to_key") 197 (.ref 21), entG P (.ofString "_initial_missing") 198 (.ref 22), entG P (.ofString "reduce") 210 (.ref 30), entG P (.ofString "Error") 232 (.ref 40), entG P (.ofString "error_reply") 248 (.ref 53), entG P (.ofString "parse257") 259 (.ref 62), entG P (.ofString "heappush") 269 (.ref 69), entG P (.ofString "heappop") 278 (.ref 76), entG P (.ofString "heapify") 287 (.ref 83), entG P (.ofString "_siftdown") 299 (.ref 90), entG P (.ofString "_siftup") 312 (.ref 97)]).toArray 20) }),
  (12, { cls := .none, dict := none, data := (.fields #[(.int (2) 0), (.int (0) 0), (.ref 20), (.int (28) 0), (.int (0) 0), (.ref 29), (.int (41) 0), (.int (0) 0), (.ref 36), (.int (43) 0), (.int (0) 0), (.ref 49), (.int (45) 0), (.int (0) 0), (.ref 61), (.int (63) 0), (.int (0) 0), (.ref 68), (.int (66) 0), (.int (0) 0), (.ref 75), (.int (74) 0), (.int (0) 0), (.ref 82), (.int (78) 0), (.int (0) 0), (.ref 89), (.int (89) 0), (.int (0) 0), (.ref 96)]) }),
  (56, { cls := (.type "tuple"), dict := none, data := (.seq #[] 0) }),
  (57, { cls := .none, dict := none, data := (.fields #[]) }),
  (58, { cls := (.type "tuple"), dict := none, data := (.seq #[(.str (.ofString "resp") 252), (.str (.ofString "dirname") 253), (.str (.ofString "i") 254), (.str (.ofString "n") 255), (.str (.ofString "c") 256)] 0) }),
  (59, { cls := (.type "tuple"), dict := none, data := (.seq #[] 0) }),
  (60, { cls := .none, dict := none, data := (.func (fnAt 0 7 (.ofString "parse257") .none .none .none)) }),
  (61, { cls := (.type "code"), dict := none, data := (.fields #[(.str (.ofString "parse257") 249), (.str (.ofString "parse257") 250), (.str (.ofString "/claim/cut.py") 251), (.int (45) 0), (.int (1) 0), (.int (0) 0), (.int (0) 0), (.int (3) 0), (.ref 56), (.bool true), (.int (181) 0), (.ref 57), .none, (.ref 58), (.ref 59), (.ref 60), (.int (257) 0), (.int (45) 0), (.str (.ofString "/claim/cut.py") 258)]) }),
  (62, { cls := (.type "function"), dict := none, data := (.func (fnAt 3 7 (.ofString "parse257") .none (.str (.ofString "cpy313.ftplib") 211) (.ref 61))) }),
  (63, { cls := (.type "tuple"), dict := none, data := (.seq #[] 0) }),
  (64, { cls := .none, dict := none, data := (.fields #[]) }),
  (65, { cls := (.type "tuple"), dict := none, data := (.seq #[(.str (.ofString "heap") 265), (.str (.ofString "item") 266)] 0) }),
  (66, { cls := (.type "tuple"), dict := none, data := (.seq #[] 0) }),
  (67, { cls := .none, dict := none, data := (.func (fnAt 0 9 (.ofString "heappush") .none .none .none)) }),
  (68, { cls := (.type "code"), dict := none, data := (.fields #[(.str (.ofString "heappush") 262), (.str (.ofString "heappush") 263), (.str (.ofString "/claim/cut.py") 264), (.int (63) 0), (.int (2) 0), (.int (0) 0), (.int (0) 0), (.int (3) 0), (.ref 63), (.bool true), (.int (181) 0), (.ref 64), .none, (.ref 65), (.ref 66), (.ref 67), (.int (267) 0), (.int (63) 0), (.str (.ofString "/claim/cut.py") 268)]) }),
  (69, { cls := (.type "function"), dict := none, data := (.func (fnAt 3 9 (.ofString "heappush") .none (.str (.ofString "cpy313.heapq") 260) (.ref 68))) }),
  (70, { cls := (.type "tuple"), dict := none, data := (.seq #[] 0) }),
  (71, { cls := .none, dict := none, data := (.fields #[]) }),
  (72, { cls := (.type "tuple"), dict := none, data := (.seq #[(.str (.ofString "heap") 273), (.str (.ofString "lastelt") 274), (.str (.ofString "returnitem") 275)] 0) }),
  (73, { cls := (.type "tuple"), dict := none, data := (.seq #[] 0) }),
  (74, { cls := .none, dict := none, data := (.func (fnAt 0 10 (.ofString "heappop") .none .none .none)) }),
  (75, { cls := (.type "code"), dict := none, data := (.fields #[(.str (.ofString "heappop") 270), (.str (.ofString "heappop") 271), (.str (.ofString "/claim/cut.py") 272), (.int (66) 0), (.int (1) 0), (.int (0) 0), (.int (0) 0), (.int (3) 0), (.ref 70), (.bool true), (.int (181) 0), (.ref 71), .none, (.ref 72), (.ref 73), (.ref 74), (.int (276) 0), (.int (66) 0), (.str (.ofString "/claim/cut.py") 277)]) }),
  (76, { cls := (.type "function"), dict := none, data := (.func (fnAt 3 10 (.ofString "heappop") .none (.str (.ofString "cpy313.heapq") 260) (.ref 75))) }),
  (77, { cls := (.type "tuple"), dict := none, data := (.seq #[] 0) }),
  (78, { cls := .none, dict := none, data := (.fields #[]) }),
  (79, { cls := (.type "tuple"), dict := none, data := (.seq #[(.str (.ofString "x") 282), (.str (.ofString "n") 283), (.str (.ofString "i") 284)] 0) }),
  (80, { cls := (.type "tuple"), dict := none, data := (.seq #[] 0) }),
  (81, { cls := .none, dict := none, data := (.func (fnAt 0 11 (.ofString "heapify") .none .none .none)) }),
  (82, { cls := (.type "code"), dict := none, data := (.fields #[(.str (.ofString "heapify") 279), (.str (.ofString "heapify") 280), (.str (.ofString "/claim/cut.py") 281), (.int (74) 0), (.int (1) 0), (.int (0) 0), (.int (0) 0), (.int (3) 0), (.ref 77), (.bool true), (.int (181) 0), (.ref 78), .none, (.ref 79), (.ref 80), (.ref 81), (.int (285) 0), (.int (74) 0), (.str (.ofString "/claim/cut.py") 286)]) }),
  (83, { cls := (.type "function"), dict := none, data := (.func (fnAt 3 11 (.ofString "heapify") .none (.str (.ofString "cpy313.heapq") 260) (.ref 82))) }),
  (84, { cls := (.type "tuple"), dict := none, data := (.seq #[] 0) }),
  (85, { cls := .none, dict := none, data := (.fields #[]) }),
  (86, { cls := (.type "tuple"), dict := none, data := (.seq #[(.str (.ofString "heap") 291), (.str (.ofString "startpos") 292), (.str (.ofString "pos") 293), (.str (.ofString "newitem") 294), (.str (.ofString "parentpos") 295), (.str (.ofString "parent") 296)] 0) }),
  (87, { cls := (.type "tuple"), dict := none, data := (.seq #[] 0) }),
  (88, { cls := .none, dict := none, data := (.func (fnAt 0 12 (.ofString "_siftdown") .none .none .none)) }),
  (89, { cls := (.type "code"), dict := none, data := (.fields #[(.str (.ofString "_siftdown") 288), (.str (.ofString "_siftdown") 289), (.str (.ofString "/claim/cut.py") 290), (.int (78) 0), (.int (3) 0), (.int (0) 0), (.int (0) 0), (.int (3) 0), (.ref 84), (.bool true), (.int (181) 0), (.ref 85), .none, (.ref 86), (.ref 87), (.ref 88), (.int (297) 0), (.int (78) 0), (.str (.ofString "/claim/cut.py") 298)]) }),
  (90, { cls := (.type "function"), dict := none, data := (.func (fnAt 3 12 (.ofString "_siftdown") .none (.str (.ofString "cpy313.heapq") 260) (.ref 89))) }),
  (91, { cls := (.type "tuple"), dict := none, data := (.seq #[] 0) }),
  (92, { cls := .none, dict := none, data := (.fields #[]) }),
  (93, { cls := (.type "tuple"), dict := none, data := (.seq #[(.str (.ofString "heap") 303), (.str (.ofString "pos") 304), (.str (.ofString "endpos") 305), (.str (.ofString "startpos") 306), (.str (.ofString "newitem") 307), (.str (.ofString "childpos") 308), (.str (.ofString "rightpos") 309)] 0) }),
  (94, { cls := (.type "tuple"), dict := none, data := (.seq #[] 0) }),
  (95, { cls := .none, dict := none, data := (.func (fnAt 0 13 (.ofString "_siftup") .none .none .none)) }),
  (96, { cls := (.type "code"), dict := none, data := (.fields #[(.str (.ofString "_siftup") 300), (.str (.ofString "_siftup") 301), (.str (.ofString "/claim/cut.py") 302), (.int (89) 0), (.int (2) 0), (.int (0) 0), (.int (0) 0), (.int (3) 0), (.ref 91), (.bool true), (.int (181) 0), (.ref 92), .none, (.ref 93), (.ref 94), (.ref 95), (.int (310) 0), (.int (89) 0), (.str (.ofString "/claim/cut.py") 311)]) }),
  (97, { cls := (.type "function"), dict := none, data := (.func (fnAt 3 13 (.ofString "_siftup") .none (.str (.ofString "cpy313.heapq") 260) (.ref 96))) })]
noncomputable def hT1_5 (P : Params) : BT := layT (hT1_4 P) [
  (3, { cls := (.type "dict"), dict := none, data := (.dict ([entG P (.ofString "__name__") 165 (.str (.ofString "law_oy0083_01") 313), entG P (.ofString "__doc__") 166 .none, entG P (.ofString "__package__") 167 .none, entG P (.ofString "__loader__") 168 (.builtin "__main__.__loader__#opaque"), entG P (.ofString "__spec__") 169 .none, entG P (.ofString "__annotations__") 170 (.ref 6), entG P (.ofString "__builtins__") 171 (.ref 4), entG P (.ofString "__file__") 173 (.str (.ofString "/claim/cut.py") 172), entG P (.ofString "__cached__") 174 .none, entG P (.ofString "cmp_to_key") 197 (.ref 21), entG P (.ofString "_initial_missing") 198 (.ref 22), entG P (.ofString "reduce") 210 (.ref 30), entG P (.ofString "Error") 232 (.ref 40), entG P (.ofString "error_reply") 248 (.ref 53), entG P (.ofString "parse257") 259 (.ref 62), entG P (.ofString "heappush") 269 (.ref 69), entG P (.ofString "heappop") 278 (.ref 76), entG P (.ofString "heapify") 287 (.ref 83), entG P (.ofString "_siftdown") 299 (.ref 90), entG P (.ofString "_siftup") 312 (.ref 97), entG P (.ofString "_law_numbers") 322 (.ref 104), entG P (.ofString "_law_sum") 328 (.ref 109), entG P (.ofString "_law_places") 338 (.ref 116), entG P (.ofString "_law_reply") 348 (.ref 123), entG P (.ofString "_law_step") 357 (.ref 130), entG P (.ofString "_law_read") 364 (.ref 137)]).toArray 26) }),
  (12, { cls := .none, dict := none, data := (.fields #[(.int (2) 0), (.int (0) 0), (.ref 20), (.int (28) 0), (.int (0) 0), (.ref 29), (.int (41) 0), (.int (0) 0), (.ref 36), (.int (43) 0), (.int (0) 0), (.ref 49), (.int (45) 0), (.int (0) 0), (.ref 61), (.int (63) 0), (.int (0) 0), (.ref 68), (.int (66) 0), (.int (0) 0), (.ref 75), (.int (74) 0), (.int (0) 0), (.ref 82), (.int (78) 0), (.int (0) 0), (.ref 89), (.int (89) 0), (.int (0) 0), (.ref 96), (.int (104) 0), (.int (0) 0), (.ref 103), (.int (109) 0), (.int (0) 0), (.ref 108), (.int (112) 0), (.int (0) 0), (.ref 115), (.int (122) 0), (.int (0) 0), (.ref 122), (.int (130) 0), (.int (0) 0), (.ref 129), (.int (133) 0), (.int (0) 0), (.ref 136)]) }),
  (98, { cls := (.type "tuple"), dict := none, data := (.seq #[] 0) }),
  (99, { cls := .none, dict := none, data := (.fields #[]) }),
  (100, { cls := (.type "tuple"), dict := none, data := (.seq #[(.str (.ofString "last") 318), (.str (.ofString "row") 319)] 0) }),
  (101, { cls := (.type "tuple"), dict := none, data := (.seq #[] 0) }),
  (102, { cls := .none, dict := none, data := (.func (fnAt 0 15 (.ofString "_law_numbers") .none .none .none)) }),
  (103, { cls := (.type "code"), dict := none, data := (.fields #[(.str (.ofString "_law_numbers") 315), (.str (.ofString "_law_numbers") 316), (.str (.ofString "/claim/cut.py") 317), (.int (104) 0), (.int (1) 0), (.int (0) 0), (.int (0) 0), (.int (3) 0), (.ref 98), (.bool true), (.int (181) 0), (.ref 99), .none, (.ref 100), (.ref 101), (.ref 102), (.int (320) 0), (.int (104) 0), (.str (.ofString "/claim/cut.py") 321)]) }),
  (104, { cls := (.type "function"), dict := none, data := (.func (fnAt 3 15 (.ofString "_law_numbers") .none (.str (.ofString "law_oy0083_01") 313) (.ref 103))) }),
  (105, { cls := (.type "tuple"), dict := none, data := (.seq #[] 0) }),
  (106, { cls := .none, dict := none, data := (.fields #[]) }),
  (107, { cls := .none, dict := none, data := (.func (fnAt 0 16 (.ofString "_law_sum") .none .none .none)) }),
  (108, { cls := (.type "code"), dict := none, data := (.fields #[(.str (.ofString "_law_sum") 323), (.str (.ofString "_law_sum") 324), (.str (.ofString "/claim/cut.py") 325), (.int (109) 0), (.int (1) 0), (.int (0) 0), (.int (0) 0), (.int (3) 0), (.ref 105), (.bool true), (.int (181) 0), (.ref 106), .none, .none, .none, (.ref 107), (.int (326) 0), (.int (109) 0), (.str (.ofString "/claim/cut.py") 327)]) }),
  (109, { cls := (.type "function"), dict := none, data := (.func (fnAt 3 16 (.ofString "_law_sum") .none (.str (.ofString "law_oy0083_01") 313) (.ref 108))) }),
  (110, { cls := (.type "tuple"), dict := none, data := (.seq #[] 0) }),
  (111, { cls := .none, dict := none, data := (.fields #[]) }),
  (112, { cls := (.type "tuple"), dict := none, data := (.seq #[(.str (.ofString "number") 332), (.str (.ofString "row") 333), (.str (.ofString "places") 334), (.str (.ofString "place") 335)] 0) }),
  (113, { cls := (.type "tuple"), dict := none, data := (.seq #[] 0) }),
  (114, { cls := .none, dict := none, data := (.func (fnAt 0 17 (.ofString "_law_places") .none .none .none)) }),
  (115, { cls := (.type "code"), dict := none, data := (.fields #[(.str (.ofString "_law_places") 329), (.str (.ofString "_law_places") 330), (.str (.ofString "/claim/cut.py") 331), (.int (112) 0), (.int (1) 0), (.int (0) 0), (.int (0) 0), (.int (3) 0), (.ref 110), (.bool true), (.int (181) 0), (.ref 111), .none, (.ref 112), (.ref 113), (.ref 114), (.int (336) 0), (.int (112) 0), (.str (.ofString "/claim/cut.py") 337)]) }),
  (116, { cls := (.type "function"), dict := none, data := (.func (fnAt 3 17 (.ofString "_law_places") .none (.str (.ofString "law_oy0083_01") 313) (.ref 115))) }),
  (117, { cls := (.type "tuple"), dict := none, data := (.seq #[] 0) }),
  (118, { cls := .none, dict := none, data := (.fields #[]) }),
  (119, { cls := (.type "tuple"), dict := none, data := (.seq #[(.str (.ofString "number") 342), (.str (.ofString "places") 343), (.str (.ofString "cell") 344), (.str (.ofString "text") 345)] 0) }),
  (120, { cls := (.type "tuple"), dict := none, data := (.seq #[] 0) }),
  (121, { cls := .none, dict := none, data := (.func (fnAt 0 18 (.ofString "_law_reply") .none .none .none)) }),
  (122, { cls := (.type "code"), dict := none, data := (.fields #[(.str (.ofString "_law_reply") 339), (.str (.ofString "_law_reply") 340), (.str (.ofString "/claim/cut.py") 341), (.int (122) 0), (.int (1) 0), (.int (0) 0), (.int (0) 0), (.int (3) 0), (.ref 117), (.bool true), (.int (181) 0), (.ref 118), .none, (.ref 119), (.ref 120), (.ref 121), (.int (346) 0), (.int (122) 0), (.str (.ofString "/claim/cut.py") 347)]) }),
  (123, { cls := (.type "function"), dict := none, data := (.func (fnAt 3 18 (.ofString "_law_reply") .none (.str (.ofString "law_oy0083_01") 313) (.ref 122))) }),
  (124, { cls := (.type "tuple"), dict := none, data := (.seq #[] 0) }),
  (125, { cls := .none, dict := none, data := (.fields #[]) }),
  (126, { cls := (.type "tuple"), dict := none, data := (.seq #[(.str (.ofString "told") 352), (.str (.ofString "sign") 353), (.str (.ofString "cell") 354)] 0) }),
  (127, { cls := (.type "tuple"), dict := none, data := (.seq #[] 0) }),
  (128, { cls := .none, dict := none, data := (.func (fnAt 0 19 (.ofString "_law_step") .none .none .none)) }),
  (129, { cls := (.type "code"), dict := none, data := (.fields #[(.str (.ofString "_law_step") 349), (.str (.ofString "_law_step") 350), (.str (.ofString "/claim/cut.py") 351), (.int (130) 0), (.int (2) 0), (.int (0) 0), (.int (0) 0), (.int (3) 0), (.ref 124), (.bool true), (.int (181) 0), (.ref 125), .none, (.ref 126), (.ref 127), (.ref 128), (.int (355) 0), (.int (130) 0), (.str (.ofString "/claim/cut.py") 356)]) }),
  (130, { cls := (.type "function"), dict := none, data := (.func (fnAt 3 19 (.ofString "_law_step") .none (.str (.ofString "law_oy0083_01") 313) (.ref 129))) }),
  (131, { cls := (.type "tuple"), dict := none, data := (.seq #[] 0) }),
  (132, { cls := .none, dict := none, data := (.fields #[]) }),
  (133, { cls := (.type "tuple"), dict := none, data := (.seq #[(.str (.ofString "reply") 361)] 0) }),
  (134, { cls := (.type "tuple"), dict := none, data := (.seq #[] 0) }),
  (135, { cls := .none, dict := none, data := (.func (fnAt 0 20 (.ofString "_law_read") .none .none .none)) }),
  (136, { cls := (.type "code"), dict := none, data := (.fields #[(.str (.ofString "_law_read") 358), (.str (.ofString "_law_read") 359), (.str (.ofString "/claim/cut.py") 360), (.int (133) 0), (.int (1) 0), (.int (0) 0), (.int (0) 0), (.int (3) 0), (.ref 131), (.bool true), (.int (181) 0), (.ref 132), .none, (.ref 133), (.ref 134), (.ref 135), (.int (362) 0), (.int (133) 0), (.str (.ofString "/claim/cut.py") 363)]) }),
  (137, { cls := (.type "function"), dict := none, data := (.func (fnAt 3 20 (.ofString "_law_read") .none (.str (.ofString "law_oy0083_01") 313) (.ref 136))) })]
noncomputable def hT1_6 (P : Params) : BT := layT (hT1_5 P) [
  (3, { cls := (.type "dict"), dict := none, data := (.dict ([entG P (.ofString "__name__") 165 (.str (.ofString "law_oy0083_01") 313), entG P (.ofString "__doc__") 166 .none, entG P (.ofString "__package__") 167 .none, entG P (.ofString "__loader__") 168 (.builtin "__main__.__loader__#opaque"), entG P (.ofString "__spec__") 169 .none, entG P (.ofString "__annotations__") 170 (.ref 6), entG P (.ofString "__builtins__") 171 (.ref 4), entG P (.ofString "__file__") 173 (.str (.ofString "/claim/cut.py") 172), entG P (.ofString "__cached__") 174 .none, entG P (.ofString "cmp_to_key") 197 (.ref 21), entG P (.ofString "_initial_missing") 198 (.ref 22), entG P (.ofString "reduce") 210 (.ref 30), entG P (.ofString "Error") 232 (.ref 40), entG P (.ofString "error_reply") 248 (.ref 53), entG P (.ofString "parse257") 259 (.ref 62), entG P (.ofString "heappush") 269 (.ref 69), entG P (.ofString "heappop") 278 (.ref 76), entG P (.ofString "heapify") 287 (.ref 83), entG P (.ofString "_siftdown") 299 (.ref 90), entG P (.ofString "_siftup") 312 (.ref 97), entG P (.ofString "_law_numbers") 322 (.ref 104), entG P (.ofString "_law_sum") 328 (.ref 109), entG P (.ofString "_law_places") 338 (.ref 116), entG P (.ofString "_law_reply") 348 (.ref 123), entG P (.ofString "_law_step") 357 (.ref 130), entG P (.ofString "_law_read") 364 (.ref 137), entG P (.ofString "_law_product") 370 (.ref 142), entG P (.ofString "_law_compare") 378 (.ref 149), entG P (.ofString "_law_popped") 384 (.ref 154), entG P (.ofString "_law_in_order") 390 (.ref 159), entG P (.ofString "_law_melted") 396 (.ref 164), entG P (.ofString "_law_as_worth") 402 (.ref 169), entG P (.ofString "_law_all_sums") 408 (.ref 174), entG P (.ofString "law") 414 (.ref 179)]).toArray 34) }),
  (12, { cls := .none, dict := none, data := (.fields #[(.int (2) 0), (.int (0) 0), (.ref 20), (.int (28) 0), (.int (0) 0), (.ref 29), (.int (41) 0), (.int (0) 0), (.ref 36), (.int (43) 0), (.int (0) 0), (.ref 49), (.int (45) 0), (.int (0) 0), (.ref 61), (.int (63) 0), (.int (0) 0), (.ref 68), (.int (66) 0), (.int (0) 0), (.ref 75), (.int (74) 0), (.int (0) 0), (.ref 82), (.int (78) 0), (.int (0) 0), (.ref 89), (.int (89) 0), (.int (0) 0), (.ref 96), (.int (104) 0), (.int (0) 0), (.ref 103), (.int (109) 0), (.int (0) 0), (.ref 108), (.int (112) 0), (.int (0) 0), (.ref 115), (.int (122) 0), (.int (0) 0), (.ref 122), (.int (130) 0), (.int (0) 0), (.ref 129), (.int (133) 0), (.int (0) 0), (.ref 136), (.int (135) 0), (.int (0) 0), (.ref 141), (.int (139) 0), (.int (0) 0), (.ref 148), (.int (141) 0), (.int (0) 0), (.ref 153), (.int (144) 0), (.int (0) 0), (.ref 158), (.int (153) 0), (.int (0) 0), (.ref 163), (.int (164) 0), (.int (0) 0), (.ref 168), (.int (169) 0), (.int (0) 0), (.ref 173), (.int (175) 0), (.int (0) 0), (.ref 178)]) }),
  (138, { cls := (.type "tuple"), dict := none, data := (.seq #[] 0) }),
  (139, { cls := .none, dict := none, data := (.fields #[]) }),
  (140, { cls := .none, dict := none, data := (.func (fnAt 0 21 (.ofString "_law_product") .none .none .none)) }),
  (141, { cls := (.type "code"), dict := none, data := (.fields #[(.str (.ofString "_law_product") 365), (.str (.ofString "_law_product") 366), (.str (.ofString "/claim/cut.py") 367), (.int (135) 0), (.int (2) 0), (.int (0) 0), (.int (0) 0), (.int (3) 0), (.ref 138), (.bool true), (.int (181) 0), (.ref 139), .none, .none, .none, (.ref 140), (.int (368) 0), (.int (135) 0), (.str (.ofString "/claim/cut.py") 369)]) }),
  (142, { cls := (.type "function"), dict := none, data := (.func (fnAt 3 21 (.ofString "_law_product") .none (.str (.ofString "law_oy0083_01") 313) (.ref 141))) }),
  (143, { cls := (.type "tuple"), dict := none, data := (.seq #[] 0) }),
  (144, { cls := .none, dict := none, data := (.fields #[]) }),
  (145, { cls := (.type "tuple"), dict := none, data := (.seq #[(.str (.ofString "one") 374), (.str (.ofString "other") 375)] 0) }),
  (146, { cls := (.type "tuple"), dict := none, data := (.seq #[] 0) }),
  (147, { cls := .none, dict := none, data := (.func (fnAt 0 22 (.ofString "_law_compare") .none .none .none)) }),
  (148, { cls := (.type "code"), dict := none, data := (.fields #[(.str (.ofString "_law_compare") 371), (.str (.ofString "_law_compare") 372), (.str (.ofString "/claim/cut.py") 373), (.int (139) 0), (.int (2) 0), (.int (0) 0), (.int (0) 0), (.int (3) 0), (.ref 143), (.bool true), (.int (181) 0), (.ref 144), .none, (.ref 145), (.ref 146), (.ref 147), (.int (376) 0), (.int (139) 0), (.str (.ofString "/claim/cut.py") 377)]) }),
  (149, { cls := (.type "function"), dict := none, data := (.func (fnAt 3 22 (.ofString "_law_compare") .none (.str (.ofString "law_oy0083_01") 313) (.ref 148))) }),
  (150, { cls := (.type "tuple"), dict := none, data := (.seq #[] 0) }),
  (151, { cls := .none, dict := none, data := (.fields #[]) }),
  (152, { cls := .none, dict := none, data := (.func (fnAt 0 23 (.ofString "_law_popped") .none .none .none)) }),
  (153, { cls := (.type "code"), dict := none, data := (.fields #[(.str (.ofString "_law_popped") 379), (.str (.ofString "_law_popped") 380), (.str (.ofString "/claim/cut.py") 381), (.int (141) 0), (.int (3) 0), (.int (0) 0), (.int (0) 0), (.int (3) 0), (.ref 150), (.bool true), (.int (181) 0), (.ref 151), .none, .none, .none, (.ref 152), (.int (382) 0), (.int (141) 0), (.str (.ofString "/claim/cut.py") 383)]) }),
  (154, { cls := (.type "function"), dict := none, data := (.func (fnAt 3 23 (.ofString "_law_popped") .none (.str (.ofString "law_oy0083_01") 313) (.ref 153))) }),
  (155, { cls := (.type "tuple"), dict := none, data := (.seq #[] 0) }),
  (156, { cls := .none, dict := none, data := (.fields #[]) }),
  (157, { cls := .none, dict := none, data := (.func (fnAt 0 24 (.ofString "_law_in_order") .none .none .none)) }),
  (158, { cls := (.type "code"), dict := none, data := (.fields #[(.str (.ofString "_law_in_order") 385), (.str (.ofString "_law_in_order") 386), (.str (.ofString "/claim/cut.py") 387), (.int (144) 0), (.int (1) 0), (.int (0) 0), (.int (0) 0), (.int (3) 0), (.ref 155), (.bool true), (.int (181) 0), (.ref 156), .none, .none, .none, (.ref 157), (.int (388) 0), (.int (144) 0), (.str (.ofString "/claim/cut.py") 389)]) }),
  (159, { cls := (.type "function"), dict := none, data := (.func (fnAt 3 24 (.ofString "_law_in_order") .none (.str (.ofString "law_oy0083_01") 313) (.ref 158))) }),
  (160, { cls := (.type "tuple"), dict := none, data := (.seq #[] 0) }),
  (161, { cls := .none, dict := none, data := (.fields #[]) }),
  (162, { cls := .none, dict := none, data := (.func (fnAt 0 25 (.ofString "_law_melted") .none .none .none)) }),
  (163, { cls := (.type "code"), dict := none, data := (.fields #[(.str (.ofString "_law_melted") 391), (.str (.ofString "_law_melted") 392), (.str (.ofString "/claim/cut.py") 393), (.int (153) 0), (.int (1) 0), (.int (0) 0), (.int (0) 0), (.int (3) 0), (.ref 160), (.bool true), (.int (181) 0), (.ref 161), .none, .none, .none, (.ref 162), (.int (394) 0), (.int (153) 0), (.str (.ofString "/claim/cut.py") 395)]) }),
  (164, { cls := (.type "function"), dict := none, data := (.func (fnAt 3 25 (.ofString "_law_melted") .none (.str (.ofString "law_oy0083_01") 313) (.ref 163))) }),
  (165, { cls := (.type "tuple"), dict := none, data := (.seq #[] 0) }),
  (166, { cls := .none, dict := none, data := (.fields #[]) }),
  (167, { cls := .none, dict := none, data := (.func (fnAt 0 26 (.ofString "_law_as_worth") .none .none .none)) }),
  (168, { cls := (.type "code"), dict := none, data := (.fields #[(.str (.ofString "_law_as_worth") 397), (.str (.ofString "_law_as_worth") 398), (.str (.ofString "/claim/cut.py") 399), (.int (164) 0), (.int (1) 0), (.int (0) 0), (.int (0) 0), (.int (3) 0), (.ref 165), (.bool true), (.int (181) 0), (.ref 166), .none, .none, .none, (.ref 167), (.int (400) 0), (.int (164) 0), (.str (.ofString "/claim/cut.py") 401)]) }),
  (169, { cls := (.type "function"), dict := none, data := (.func (fnAt 3 26 (.ofString "_law_as_worth") .none (.str (.ofString "law_oy0083_01") 313) (.ref 168))) }),
  (170, { cls := (.type "tuple"), dict := none, data := (.seq #[] 0) }),
  (171, { cls := .none, dict := none, data := (.fields #[]) }),
  (172, { cls := .none, dict := none, data := (.func (fnAt 0 27 (.ofString "_law_all_sums") .none .none .none)) }),
  (173, { cls := (.type "code"), dict := none, data := (.fields #[(.str (.ofString "_law_all_sums") 403), (.str (.ofString "_law_all_sums") 404), (.str (.ofString "/claim/cut.py") 405), (.int (169) 0), (.int (1) 0), (.int (0) 0), (.int (0) 0), (.int (3) 0), (.ref 170), (.bool true), (.int (181) 0), (.ref 171), .none, .none, .none, (.ref 172), (.int (406) 0), (.int (169) 0), (.str (.ofString "/claim/cut.py") 407)]) }),
  (174, { cls := (.type "function"), dict := none, data := (.func (fnAt 3 27 (.ofString "_law_all_sums") .none (.str (.ofString "law_oy0083_01") 313) (.ref 173))) }),
  (175, { cls := (.type "tuple"), dict := none, data := (.seq #[] 0) }),
  (176, { cls := .none, dict := none, data := (.fields #[]) }),
  (177, { cls := .none, dict := none, data := (.func (fnAt 0 28 (.ofString "law") .none .none .none)) }),
  (178, { cls := (.type "code"), dict := none, data := (.fields #[(.str (.ofString "law") 409), (.str (.ofString "law") 410), (.str (.ofString "/claim/cut.py") 411), (.int (175) 0), (.int (1) 0), (.int (0) 0), (.int (0) 0), (.int (3) 0), (.ref 175), (.bool true), (.int (181) 0), (.ref 176), .none, .none, .none, (.ref 177), (.int (412) 0), (.int (175) 0), (.str (.ofString "/claim/cut.py") 413)]) }),
  (179, { cls := (.type "function"), dict := none, data := (.func (fnAt 3 28 (.ofString "law") .none (.str (.ofString "law_oy0083_01") 313) (.ref 178))) })]
noncomputable def henv1 : Env := { scope := PySem.Challenge.pw_oy0083_01.main.scope, locals := mainNs, globals := mainNs, cells := [], code := .ref 13, frame := some 14 }
noncomputable def hbody1 : List Stmt := behindTheImports PySem.Challenge.pw_oy0083_01
noncomputable def hcode1 : Code := .body hbody1 henv1
noncomputable def hl1_0 : List Stmt := (hbody1.drop 0).take 5
noncomputable def hl1_1 : List Stmt := (hbody1.drop 5).take 1
noncomputable def hl1_2 : List Stmt := (hbody1.drop 6).take 1
noncomputable def hl1_3 : List Stmt := (hbody1.drop 7).take 7
noncomputable def hl1_4 : List Stmt := (hbody1.drop 14).take 7
noncomputable def hl1_5 : List Stmt := (hbody1.drop 21).take 8
/-- the run of a group of statements, by the library's quick form of segRunT and of treeTable -/
theorem quickSeg {p : Program} {w : World} {n₀ b n : Nat} {ann : Option Value} {s : SharedT} {t : Thread} {r : Option (Flow × SharedT × Code × Pos)} (h : PySem.W.Fast.tw10110043849684766642 PySem.W.Fast.tw14364793385576792824 p w n₀ ann b n s t = r) : segRunT treeTable p w n₀ ann b n s t = r := by rw [PySem.W.Fast.te10110043849684766642, PySem.W.Fast.te14364793385576792824]; exact h
set_option maxRecDepth 100000 in
theorem hp1_0 (w : World) (os : OsState) : segRunT treeTable PySem.Challenge.pw_oy0083_01 w 11 (some (.ref 6)) 1 113 ⟨hT1_0 w.params, 15, {}, #[], boot_drawn, 187, os⟩ (piecesOf hl1_0 henv1 hcode1 ⟨0, 0, 0, 0⟩ [topFrame ⟨0, 0, 0, 0⟩]) = some (.next, ⟨hT1_1 w.params, 31, {}, #[], boot_drawn, 213, os⟩, hcode1, ⟨40, 0, 40, 8⟩) := quickSeg (by kernel_rfl)
set_option maxRecDepth 100000 in
theorem hp1_1 (w : World) (os : OsState) : segRunT treeTable PySem.Challenge.pw_oy0083_01 w 11 (some (.ref 6)) 1 197 ⟨hT1_1 w.params, 31, {}, #[], boot_drawn, 213, os⟩ (piecesOf hl1_1 henv1 hcode1 ⟨40, 0, 40, 8⟩ [topFrame ⟨0, 0, 0, 0⟩]) = some (.next, ⟨hT1_2 w.params, 44, {}, #[], boot_drawn, 233, os⟩, hcode1, ⟨41, 0, 42, 8⟩) := quickSeg (by kernel_rfl)
set_option maxRecDepth 100000 in
theorem hp1_2 (w : World) (os : OsState) : segRunT treeTable PySem.Challenge.pw_oy0083_01 w 11 (some (.ref 6)) 1 214 ⟨hT1_2 w.params, 44, {}, #[], boot_drawn, 233, os⟩ (piecesOf hl1_2 henv1 hcode1 ⟨41, 0, 42, 8⟩ [topFrame ⟨0, 0, 0, 0⟩]) = some (.next, ⟨hT1_3 w.params, 56, {}, #[], boot_drawn, 249, os⟩, hcode1, ⟨43, 0, 44, 8⟩) := quickSeg (by kernel_rfl)
set_option maxRecDepth 100000 in
theorem hp1_3 (w : World) (os : OsState) : segRunT treeTable PySem.Challenge.pw_oy0083_01 w 11 (some (.ref 6)) 1 204 ⟨hT1_3 w.params, 56, {}, #[], boot_drawn, 249, os⟩ (piecesOf hl1_3 henv1 hcode1 ⟨43, 0, 44, 8⟩ [topFrame ⟨0, 0, 0, 0⟩]) = some (.next, ⟨hT1_4 w.params, 98, {}, #[], boot_drawn, 313, os⟩, hcode1, ⟨89, 0, 102, 34⟩) := quickSeg (by kernel_rfl)
set_option maxRecDepth 100000 in
theorem hp1_4 (w : World) (os : OsState) : segRunT treeTable PySem.Challenge.pw_oy0083_01 w 11 (some (.ref 6)) 1 190 ⟨hT1_4 w.params, 98, {}, #[], boot_drawn, 313, os⟩ (piecesOf hl1_4 henv1 hcode1 ⟨89, 0, 102, 34⟩ [topFrame ⟨0, 0, 0, 0⟩]) = some (.next, ⟨hT1_5 w.params, 138, {}, #[], boot_drawn, 365, os⟩, hcode1, ⟨133, 0, 134, 60⟩) := quickSeg (by kernel_rfl)
set_option maxRecDepth 100000 in
theorem hp1_5 (w : World) (os : OsState) : segRunT treeTable PySem.Challenge.pw_oy0083_01 w 11 (some (.ref 6)) 1 213 ⟨hT1_5 w.params, 138, {}, #[], boot_drawn, 365, os⟩ (piecesOf hl1_5 henv1 hcode1 ⟨133, 0, 134, 60⟩ [topFrame ⟨0, 0, 0, 0⟩]) = some (.next, ⟨hT1_6 w.params, 180, {}, #[], boot_drawn, 415, os⟩, hcode1, ⟨175, 0, 186, 79⟩) := quickSeg (by kernel_rfl)
set_option maxRecDepth 100000 in
theorem hpre1 (w : World) (os : OsState) : topGo treeTable PySem.Challenge.pw_oy0083_01 w 11 (some (.ref 6)) 12 ⟨boot_heap w.params, Array.mk [], boot_drawn, boot_toks, os⟩ (topStub PySem.Challenge.pw_oy0083_01) = some ((SharedT.abs ⟨hT1_0 w.params, 15, {}, #[], boot_drawn, 187, os⟩), ⟨denote treeTable hcode1, hcode1, ⟨0, 0, 0, 0⟩, [topFrame ⟨0, 0, 0, 0⟩]⟩) := by kernel_rfl
set_option maxRecDepth 100000 in
theorem hblk1 (w : World) (os : OsState) : segRunT treeTable PySem.Challenge.pw_oy0083_01 w 11 (some (.ref 6)) 1 1 ⟨hT1_0 w.params, 15, {}, #[], boot_drawn, 187, os⟩ (blockOf hbody1 henv1 hcode1 ⟨0, 0, 0, 0⟩ [topFrame ⟨0, 0, 0, 0⟩]) = some (.next, ⟨hT1_0 w.params, 15, {}, #[], boot_drawn, 187, os⟩, hcode1, ⟨0, 0, 0, 0⟩) := quickSeg (by kernel_rfl)
set_option maxRecDepth 100000 in
theorem hfin1 (w : World) (os : OsState) : topRun treeTable PySem.Challenge.pw_oy0083_01 w 11 (some (.ref 6)) 2 (SharedT.abs ⟨hT1_6 w.params, 180, {}, #[], boot_drawn, 415, os⟩) ⟨doneF .next, hcode1, ⟨175, 0, 186, 79⟩, [topFrame ⟨0, 0, 0, 0⟩]⟩ = some (⟨absHeap (hT1_6 w.params) 180 {}, Array.mk [], boot_drawn, 415, os⟩ : Shared) := by kernel_rfl
set_option maxRecDepth 100000 in
theorem hcat1 : hbody1 = hl1_0 ++ (hl1_1 ++ (hl1_2 ++ (hl1_3 ++ (hl1_4 ++ (hl1_5 ++ []))))) := by kernel_rfl
theorem hrun1 (w : World) (os : OsState) : topRun treeTable PySem.Challenge.pw_oy0083_01 w 11 (some (.ref 6)) (12 + (1 + (113 + (197 + (214 + (204 + (190 + (213 + (2))))))))) ⟨boot_heap w.params, Array.mk [], boot_drawn, boot_toks, os⟩ (topStub PySem.Challenge.pw_oy0083_01) = some (⟨absHeap (hT1_6 w.params) 180 {}, Array.mk [], boot_drawn, 415, os⟩ : Shared) := by
  refine go_top (hpre1 w os) (piece_block (segRun_of (hblk1 w os)) ?_)
  rw [hcat1]
  exact piece_app (segRun_of (hp1_0 w os)) (piece_app (segRun_of (hp1_1 w os)) (piece_app (segRun_of (hp1_2 w os)) (piece_app (segRun_of (hp1_3 w os)) (piece_app (segRun_of (hp1_4 w os)) (piece_app (segRun_of (hp1_5 w os)) (piece_nil (hfin1 w os)))))))
set_option maxRecDepth 100000 in
theorem hsize1 (w : World) : ((boot_heap w.params).isNs mainGlobals && (Array.mk ([] : List GenState)).size == 0, (boot_heap w.params).objs.size, (boot_heap w.params).nsMap mainGlobals "__annotations__") = (true, 11, some (.ref 6)) := by kernel_rfl
set_option maxRecDepth 100000 in
theorem htops1 (w : World) (os : OsState) : (staticsOk (importedModules PySem.Challenge.pw_oy0083_01.main.body) (boot_heap w.params) (⟨absHeap (hT1_6 w.params) 180 {}, Array.mk [], boot_drawn, 415, os⟩ : Shared).heap && namesBound PySem.Challenge.pw_oy0083_01 (⟨absHeap (hT1_6 w.params) 180 {}, Array.mk [], boot_drawn, 415, os⟩ : Shared).heap && gensDone (⟨absHeap (hT1_6 w.params) 180 {}, Array.mk [], boot_drawn, 415, os⟩ : Shared) && laidKept (boot_heap w.params) (⟨absHeap (hT1_6 w.params) 180 {}, Array.mk [], boot_drawn, 415, os⟩ : Shared).heap) = true := by kernel_rfl
set_option maxRecDepth 100000 in
/-- the head, from the looks at the last heap -/
theorem hleft1 {q : Program} {loose : List Str} {Xt : Shared → Bool} {α : Type} {Yf : Shared → α} {Ya : World → α} (e : opening PySem.Challenge.pw_oy0083_01 = plainProg PySem.Challenge.pw_oy0083_01.main.scope.names) (n : Nat.ble 600 1996 = true) (f : ∀ s, fenceModules? PySem.Challenge.pw_oy0083_01 s = some s)
    (look : ∀ (w : World) (os : OsState), openSeen q loose (importedModules PySem.Challenge.pw_oy0083_01.main.body) Xt true (⟨absHeap (hT1_6 w.params) 180 {}, Array.mk [], boot_drawn, 415, os⟩ : Shared) = openGood q loose) (ya : ∀ (w : World) (os : OsState), Yf (⟨absHeap (hT1_6 w.params) 180 {}, Array.mk [], boot_drawn, 415, os⟩ : Shared) = Ya w) : LeftO PySem.Challenge.pw_oy0083_01 q loose Xt Yf Ya 1996 :=
  LeftO.of_pieces (H₀ := boot_heap) (H₁ := (fun P => absHeap (hT1_6 P) 180 {})) (gs₀ := Array.mk []) (gs₁ := Array.mk []) (d₀ := boot_drawn) (d₁ := boot_drawn) (k₀ := boot_toks) (k₁ := 415) (boot_open e n f) hsize1 hrun1 (by kernel_rfl) fun w => funext fun os => looks_pair (htops1 w os) (looks_pair (look w os) (ya w os))
end Mine
namespace Mine
open PySem PySem.W PySem.W.X PyProof.Rows
set_option maxRecDepth 100000 in
theorem hres1 : namesResolve (OpenLaw.row PySem.Challenge.rw_oy0083_01).prog = true := (congrFun PySem.W.Fast.te8377067652309620493 _).trans (by kernel_rfl)
set_option maxRecDepth 100000 in
theorem hmeet1 : namesMeet (OpenLaw.row PySem.Challenge.rw_oy0083_01).prog (OpenLaw.row PySem.Challenge.rw_oy0083_01).prog.main.body (fun _ n => attrL n) = true := (congrFun (congrFun (congrFun PySem.W.Fast.te17119622794617984870 _) _) _).trans (by kernel_rfl)
set_option maxRecDepth 100000 in
theorem hlooks1 : looksOpen (OpenLaw.row PySem.Challenge.rw_oy0083_01).prog = true := by
  unfold looksOpen
  with_reducible repeat' refine look_both ?_ ?_
  all_goals try (with_reducible first | exact hres1 | exact hmeet1)
  all_goals first | (with_reducible refine (congrFun (congrFun PySem.W.Fast.te8326940854005059898 _) _).trans ?_) | (with_reducible refine (congrFun (congrFun (congrFun PySem.W.Fast.te17119622794617984870 _) _) _).trans ?_) | (with_reducible refine (congrFun PySem.W.Fast.te8377067652309620493 _).trans ?_) | (with_reducible refine (congrFun (congrFun PySem.W.Fast.te8179353310426384613 _) _).trans ?_) | skip
  all_goals kernel_rfl
set_option maxRecDepth 100000 in
theorem hrow1 : OpenRow.wellSaid (OpenLaw.row PySem.Challenge.rw_oy0083_01) = true := by
  unfold OpenRow.wellSaid OpenRow.partSaid
  with_reducible repeat' refine look_both ?_ ?_
  all_goals first | (with_reducible exact hlooks1) | kernel_rfl
set_option maxRecDepth 100000 in
theorem hsaid1 : OpenLaw.wellSaid PySem.Challenge.rw_oy0083_01 = true := by
  unfold OpenLaw.wellSaid
  with_reducible repeat' refine look_both ?_ ?_
  all_goals try (with_reducible exact hrow1)
  all_goals first | (with_reducible refine (congrFun (congrFun PySem.W.Fast.te8326940854005059898 _) _).trans ?_) | (with_reducible refine (congrFun (congrFun (congrFun PySem.W.Fast.te17119622794617984870 _) _) _).trans ?_) | (with_reducible refine (congrFun PySem.W.Fast.te8377067652309620493 _).trans ?_) | (with_reducible refine (congrFun (congrFun PySem.W.Fast.te8179353310426384613 _) _).trans ?_) | skip
  all_goals kernel_rfl
end Mine
namespace Mine
open PySem PySem.W PySem.W.X PyProof.Rows
noncomputable def view1 : Program := { PySem.Challenge.pw_oy0083_01 with main := { PySem.Challenge.pw_oy0083_01.main with body := [stm 28] } }
noncomputable def loose1 : List Str := ["cmp_to_key", "_initial_missing", "reduce", "Error", "error_reply", "parse257", "heappush", "heappop", "heapify", "_siftdown", "_siftup", "_law_numbers", "_law_sum", "_law_places", "_law_reply", "_law_step", "_law_read", "_law_product", "_law_compare", "_law_popped", "_law_in_order", "_law_melted", "_law_as_worth", "_law_all_sums"]
noncomputable def hook1 : Hook := kHook groundK groundA (fun _ => by kernel_rfl)
end Mine
open Mine PySem PySem.W PySem.W.X PyProof.Rows
set_option maxRecDepth 100000 in
set_option maxHeartbeats 0 in
theorem PySem.Challenge.cw_oy0083_01_holds : PySem.Challenge.rw_oy0083_01.Holds := by
  w_on
  refine holds_law hsaid1 fun said => ?_
  refine holds_open (q := view1) (loose := loose1) (Xt := fun s => xlAt view1 [] s && recOk (RowW.records (OpenRow.toRowW PySem.Challenge.rw_oy0083_01.row)) s) (XP := XL view1 []) (Yf := Hook.obs hook1) (Ya := Hook.val hook1) (YP := Hook.says hook1) (N := 1996) ?hl (Hook.of hook1) (Hook.keeps hook1) (fun s e => xl_of s (Bool.and_eq_true_iff.mp e).1) XL.keeps (by rfl) (by rfl) (by rfl) (fun s e => recFacts_of (Bool.and_eq_true_iff.mp e).2) (by rfl) (by first | assumption | decide +kernel) (by decide +kernel) ⟨rfl, rfl, rfl, rfl, rfl, by decide +kernel⟩ ?hw ?hc
  case hl => exact hleft1 (by rfl) (by rfl) (fun s => by rfl) (fun w os => by kernel_rfl) (fun w os => by kernel_rfl)
  case hw => w_witness2
  k_fill
  intro w s₀ s₁ mg mb G Y fa o pm cd doc dV kV ho hd hcd hD hmg hg args vals as hpre hlay hrd hwl hlo
  have KX := kIn_of Y
  refine Ground.open G ?_
  intro T B D TE TW
  wrow_args hpre hlay hrd hwl hlo
  clear hcd hd
  x_fa T KX hmg
  rename_i ns hs hlay0 hL1 hr1 hl2 as4 as3 a vs as0 hLs ra w1 r0 hI hr hc1 hc2
  clear hs hlay0 hL1 hr1 hl2 ra r0 hr hc2 hLs hI T B D TE TW G Y hD
  have X := cutK_in (z := 16) KX
  have k16 : s₁.heap.get? 16 = some { cls := .none, data := .fields #[] } := KX _ _ (by kernel_rfl)
  obtain ⟨N, GG, hB⟩ := ends1 X ⟨by kernel_rfl, by kernel_rfl, by kernel_rfl, by kernel_rfl⟩ ⟨by kernel_rfl, by kernel_rfl, by kernel_rfl, by kernel_rfl⟩ ⟨by kernel_rfl, by kernel_rfl, by kernel_rfl, by kernel_rfl⟩ ⟨by kernel_rfl, by kernel_rfl, by kernel_rfl, by kernel_rfl⟩ ⟨by kernel_rfl, by kernel_rfl, by kernel_rfl, by kernel_rfl⟩ ⟨by kernel_rfl, by kernel_rfl, by kernel_rfl, by kernel_rfl⟩ ⟨by kernel_rfl, by kernel_rfl, by kernel_rfl, by kernel_rfl⟩ ⟨by kernel_rfl, by kernel_rfl, by kernel_rfl, by kernel_rfl⟩ ⟨by kernel_rfl, by kernel_rfl, by kernel_rfl, by kernel_rfl⟩ ⟨by kernel_rfl, by kernel_rfl, by kernel_rfl, by kernel_rfl⟩ ⟨by kernel_rfl, by kernel_rfl, by kernel_rfl, by kernel_rfl⟩ ⟨by kernel_rfl, by kernel_rfl, by kernel_rfl, by kernel_rfl⟩ ⟨by kernel_rfl, by kernel_rfl, by kernel_rfl, by kernel_rfl⟩ ⟨by kernel_rfl, by kernel_rfl, by kernel_rfl, by kernel_rfl⟩ ⟨by kernel_rfl, by kernel_rfl, by kernel_rfl, by kernel_rfl⟩ ⟨by kernel_rfl, by kernel_rfl, by kernel_rfl, by kernel_rfl⟩ ⟨by kernel_rfl, by kernel_rfl, by kernel_rfl, by kernel_rfl⟩ ⟨by kernel_rfl, by kernel_rfl, by kernel_rfl, by kernel_rfl⟩ ⟨by kernel_rfl, by kernel_rfl, by kernel_rfl, by kernel_rfl⟩ ⟨by kernel_rfl, by kernel_rfl, by kernel_rfl, by kernel_rfl⟩ ⟨by kernel_rfl, by kernel_rfl, by kernel_rfl, by kernel_rfl⟩ ⟨by kernel_rfl, by kernel_rfl, by kernel_rfl, by kernel_rfl⟩
    (by kernel_rfl) (by kernel_rfl) (by kernel_rfl) (by kernel_rfl) (by kernel_rfl) (by kernel_rfl) (by kernel_rfl) (by kernel_rfl) (by kernel_rfl) (by kernel_rfl) ⟨by kernel_rfl, by kernel_rfl, by kernel_rfl⟩ ⟨by kernel_rfl, by kernel_rfl, by kernel_rfl⟩ ⟨by kernel_rfl, by kernel_rfl, by kernel_rfl⟩ (by kernel_rfl) (by kernel_rfl) (by kernel_rfl) (by kernel_rfl)
  have k20 := KX 20 (kO (groundK w.params) 20) (by kernel_rfl)
  have c20 : (kO (groundK w.params) 20).cls = .type "code" := by kernel_rfl
  have d20 : (kO (groundK w.params) 20).data = .fields (fsOf (kO (groundK w.params) 20)) := by kernel_rfl
  have g20 : (fsOf (kO (groundK w.params) 20))[11]? = some (.ref 16) := by kernel_rfl
  obtain ⟨vs', ea, da⟩ := script_den (c := hideAll s₁.heap [16]) w1
  have na : a ≠ 16 := fun e => by rw [e, k16] at ea; cases ea
  have dv : Den (hideAll s₁.heap [16]) (.ref a) (.list (ns.map .int)) := by
    simp only [Den]
    exact ⟨a, vs', rfl, ⟨0, hideAll_get _ ea (by simpa using na)⟩, da⟩
  show wpAny (model _ w) callerA (call (.ref 179) [.ref a]) _ _ ⟨s₁.heap, s₁.gens, s₁.drawn, s₁.toks, s₁.os⟩
  refine law_spec N hB GG (fun _ _ e => of_hideAll _ e) (hideAll_none _ (by simp)) k16 rm_caller dv (by lia) fun c' h' t' x m16 => ?_
  obtain ⟨more, e16⟩ := m16
  refine ⟨.inl ⟨_, _, [], rfl, fun _ => rfl, ReadsW.bool true, ?_, fun _ => ⟨List.nodup_nil, fun _ hm => (nomatch hm)⟩⟩, oldK_16 x.hh k20 c20 d20 g20 k16 e16, rfl, .of_eq hg⟩
  first | rfl | wrow_post
