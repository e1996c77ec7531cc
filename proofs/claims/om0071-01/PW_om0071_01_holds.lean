import PyProof.Rows.All
import Wide.All
import OpenK.AllK
import Wide.FinOn
import PySem.Challenge.RW_om0071_01
open PySem PySem.W PyProof.Rows PySem.Calls
set_option Elab.async false
set_option maxRecDepth 100000
set_option maxHeartbeats 0
set_option compiler.extract_closed false
set_option linter.unusedVariables false
namespace Mine
open_top hd for PySem.Challenge.rw_om0071_01

abbrev PR : Program := PySem.Challenge.pw_om0071_01
noncomputable abbrev KK (w : World) : Frag := hd.heap_39 w.params

/-- the ground: the top's objects stand in b -/
structure Wld (w : World) (b : Heap) : Prop where
  X : (KK w).In b
  nl : b.NoLimit
  gl : ∃ mg, b.Ns mainGlobals mg
  bi : ∃ mb, b.Ns builtinsNs mb ∧ ∀ x : Str, x ≠ "__name__" → mb x = bootBuiltins x

theorem Wld.keeps {w : World} {b h : Heap} (W : Wld w b) (k : ∀ a o, b.get? a = some o → h.get? a = some o) : Wld w h :=
  ⟨W.X.keeps k, W.nl.keeps k, let ⟨mg, h1⟩ := W.gl; ⟨mg, h1.keeps k⟩, let ⟨mb, h1, h2⟩ := W.bi; ⟨mb, h1.keeps k, h2⟩⟩

/-- room for d more calls -/
structure Ok (A : Around) (d : Nat) : Prop where
  hh : A.handled = none
  dep : A.depth + d < 900
  un : A.units + 20 * d < 1000
theorem Ok.room {A : Around} {d : Nat} (o : Ok A d) : A.depth < recursionLimit := by
  have := o.dep; simp only [recursionLimit]; omega
theorem Ok.units {A : Around} {d : Nat} (o : Ok A d) : A.units < cLine := by
  have := o.un; have := cLine_is; omega
theorem Ok.deeper {A : Around} {d : Nat} {env : Env} (o : Ok A (d + 1)) : Ok (A.deeper env) d :=
  ⟨o.hh, by have := o.dep; show A.depth + 1 + d < 900; omega, by have := o.un; show A.units + 3 + 20 * d < 1000; omega⟩
theorem Ok.in1 {A : Around} {d : Nat} (o : Ok A (d + 1)) : Ok A.in1 d :=
  ⟨o.hh, by have := o.dep; show A.depth + d < 900; omega, by have := o.un; show A.units + 1 + 20 * d < 1000; omega⟩
theorem Ok.mono {A : Around} {d e : Nat} (o : Ok A d) (h : e ≤ d) : Ok A e :=
  ⟨o.hh, by have := o.dep; omega, by have := o.un; omega⟩

/-- local names and what they hold (none: nothing known) -/
inductive Has : List Str → List (Option Value) → Str → Value → Prop
  | head {ns : List Str} {vs : List (Option Value)} {x : Str} {v : Value} : Has (x :: ns) (some v :: vs) x v
  | tail {ns : List Str} {vs : List (Option Value)} {x y : Str} {v : Value} {o : Option Value} : Has ns vs x v → Has (y :: ns) (o :: vs) x v
inductive Put : List Str → List (Option Value) → Str → Value → List (Option Value) → Prop
  | head {ns : List Str} {vs : List (Option Value)} {x : Str} {v : Value} {o : Option Value} : Put (x :: ns) (o :: vs) x v (some v :: vs)
  | tail {ns : List Str} {vs vs' : List (Option Value)} {x y : Str} {v : Value} {o : Option Value} : Put ns vs x v vs' → Put (y :: ns) (o :: vs) x v (o :: vs')
/-- what is known of all the names, one by one -/
def HasAll (P : Str → Value → Prop) : List Str → List (Option Value) → Prop
  | x :: ns, some v :: vs => P x v ∧ HasAll P ns vs
  | _ :: ns, none :: vs => HasAll P ns vs
  | _, _ => True
theorem has_all {P : Str → Value → Prop} {ns : List Str} {vs : List (Option Value)} (h : HasAll P ns vs) (x : Str) (v : Value) (k : Has ns vs x v) : P x v := by
  induction k with
  | head => exact h.1
  | @tail ns vs x y v o k ih =>
    cases o with
    | none => exact ih h
    | some u => exact ih h.2
theorem Has.mem {ns : List Str} {vs : List (Option Value)} {x : Str} {v : Value} (h : Has ns vs x v) : x ∈ ns := by
  induction h with
  | head => exact .head _
  | tail _ ih => exact .tail _ ih
theorem Put.has {ns : List Str} {vs vs' : List (Option Value)} {x : Str} {v : Value} (p : Put ns vs x v vs') (nd : ns.Nodup) :
    ∀ y u, Has ns vs' y u → (y = x ∧ u = v) ∨ (y ≠ x ∧ Has ns vs y u) := by
  induction p with
  | @head ns vs x v o =>
    intro y u h
    cases h with
    | head => exact .inl ⟨rfl, rfl⟩
    | tail h => exact .inr ⟨fun e => (List.nodup_cons.mp nd).1 (e ▸ h.mem), .tail h⟩
  | @tail ns vs vs' x z v o p ih =>
    intro y u h
    have nd' := List.nodup_cons.mp nd
    have hx : x ∈ ns := by
      clear ih h nd nd'
      induction p with
      | head => exact .head _
      | tail _ ih => exact .tail _ ih
    cases h with
    | head => exact .inr ⟨fun e => nd'.1 (e ▸ hx), .head⟩
    | tail h =>
      rcases ih nd'.2 y u h with e | ⟨e, k⟩
      · exact .inl e
      · exact .inr ⟨e, .tail k⟩

abbrev Pd := Obj → Prop
def isL (items : Array Value) : Pd := fun o => o.cls = .type "list" ∧ ∃ n, o.data = .seq items n
def isT (items : Array Value) : Pd := fun o => o.cls = .type "tuple" ∧ ∃ n, o.data = .seq items n
def isLx (items : Array Value) : Pd := fun o => ∃ n, o = { cls := .type "list", data := .seq items n }
def At (h : Heap) (a : Addr) (P : Pd) : Prop := ∃ o, h.get? a = some o ∧ P o
theorem At.weak {h : Heap} {a : Addr} {items : Array Value} (x : At h a (isLx items)) : At h a (isL items) := let ⟨o, e, n, q⟩ := x; ⟨o, e, by rw [q], n, by rw [q]⟩
theorem At.imp {h : Heap} {a : Addr} {P R : Pd} (x : At h a P) (i : ∀ o, P o → R o) : At h a R := let ⟨o, e, q⟩ := x; ⟨o, e, i o q⟩
def Keeps (muts : List Addr) (h h' : Heap) : Prop := ∀ a o, h.get? a = some o → a ∉ muts → h'.get? a = some o
def Same (s s' : Shared) : Prop := s'.gens = s.gens ∧ s'.drawn = s.drawn ∧ s'.os = s.os
theorem Same.rfl {s : Shared} : Same s s := ⟨.refl _, .refl _, .refl _⟩
theorem Same.trans {s s' s'' : Shared} (a : Same s s') (b : Same s' s'') : Same s s'' := ⟨b.1.trans a.1, b.2.1.trans a.2.1, b.2.2.trans a.2.2⟩
theorem Keeps.refl {h : Heap} : Keeps [] h h := fun _ _ e _ => e
theorem Keeps.at {m : List Addr} {h h' : Heap} {a : Addr} {P : Pd} (k : Keeps m h h') (x : At h a P) (n : a ∉ m) : At h' a P := let ⟨o, e, p⟩ := x; ⟨o, k a o e n, p⟩

inductive Up (a : Addr) (P' : Pd) : List (Addr × Pd) → List (Addr × Pd) → Prop
  | head {P : Pd} {r : List (Addr × Pd)} : Up a P' ((a, P) :: r) ((a, P') :: r)
  | tail {q : Addr × Pd} {r r' : List (Addr × Pd)} : Up a P' r r' → Up a P' (q :: r) (q :: r')
theorem Up.addr {a : Addr} {P' : Pd} {l l' : List (Addr × Pd)} (u : Up a P' l l') : l'.map (·.1) = l.map (·.1) := by
  induction u with
  | head => rfl
  | tail _ ih => simp only [List.map_cons, ih]
theorem Up.mem {a : Addr} {P' : Pd} {l l' : List (Addr × Pd)} (u : Up a P' l l') (nd : (l.map (·.1)).Nodup) : ∀ p ∈ l', p = (a, P') ∨ (p ∈ l ∧ p.1 ≠ a) := by
  induction u with
  | @head P r =>
    intro p hp
    rcases List.mem_cons.mp hp with e | hp
    · exact .inl e
    · refine .inr ⟨.tail _ hp, fun e => ?_⟩
      rw [List.map_cons, List.nodup_cons] at nd
      exact nd.1 (List.mem_map.mpr ⟨p, hp, e⟩)
  | @tail q r r' u ih =>
    intro p hp
    rw [List.map_cons, List.nodup_cons] at nd
    rcases List.mem_cons.mp hp with e | hp
    · refine .inr ⟨e ▸ .head _, fun e' => ?_⟩
      subst e
      apply nd.1
      rw [e', ← u.addr]
      clear ih hp e' nd
      induction u with
      | head => exact .head _
      | tail _ ih => exact .tail _ ih
    · rcases ih nd.2 p hp with e | ⟨e, n⟩
      · exact .inl e
      · exact .inr ⟨.tail _ e, n⟩
theorem Up.old {a : Addr} {P' : Pd} {l l' : List (Addr × Pd)} (u : Up a P' l l') : ∃ P, (a, P) ∈ l := by
  induction u with
  | @head P _ => exact ⟨P, .head _⟩
  | tail _ ih => let ⟨P, h⟩ := ih; exact ⟨P, .tail _ h⟩

/-- the state of a frame: locals, frozen ground g, ledger -/
structure ST (s₀ : Shared) (g : Heap) (L : Addr) (ns : List Str) (vs : List (Option Value)) (nw : List (Addr × Pd)) (s : Shared) : Prop where
  loc : ∃ m, s.heap.Ns L m ∧ ∀ x v, Has ns vs x v → m x = some v
  nsd : ns.Nodup
  keep : ∀ b o, g.get? b = some o → s.heap.get? b = some o
  off : g.get? L = none
  above : g.objs.size ≤ L
  led : ∀ p ∈ nw, At s.heap p.1 p.2 ∧ g.get? p.1 = none ∧ p.1 ≠ L
  nd : (nw.map (·.1)).Nodup
  same : Same s₀ s

section
variable {s₀ s : Shared} {g : Heap} {L : Addr} {ns : List Str} {vs : List (Option Value)} {nw : List (Addr × Pd)}
theorem ST.tok (S : ST s₀ g L ns vs nw s) {k : Nat} : ST s₀ g L ns vs nw { s with toks := k } :=
  ⟨S.loc, S.nsd, S.keep, S.off, S.above, S.led, S.nd, S.same⟩
theorem ST.old (S : ST s₀ g L ns vs nw s) {a : Addr} {P : Pd} (h : At g a P) : At s.heap a P := let ⟨o, e, p⟩ := h; ⟨o, S.keep a o e, p⟩
theorem ST.new (S : ST s₀ g L ns vs nw s) {a : Addr} {P : Pd} (h : (a, P) ∈ nw) : At s.heap a P := (S.led _ h).1
theorem ST.lt (S : ST s₀ g L ns vs nw s) : L < s.heap.objs.size := let ⟨_, h, _⟩ := S.loc; h.lt
theorem ST.ltN (S : ST s₀ g L ns vs nw s) {p : Addr × Pd} (h : p ∈ nw) : p.1 < s.heap.objs.size := let ⟨_, e, _⟩ := (S.led _ h).1; Heap.lt_size e
/-- a heap that has all of the old one's -/
theorem ST.grow (S : ST s₀ g L ns vs nw s) {s' : Shared} (k : ∀ a o, s.heap.get? a = some o → s'.heap.get? a = some o) (e : Same s s') : ST s₀ g L ns vs nw s' :=
  ⟨let ⟨m, h, r⟩ := S.loc; ⟨m, h.keeps k, r⟩, S.nsd, fun b o e => k b o (S.keep b o e), S.off, S.above,
    fun p hp => let ⟨⟨o, e, q⟩, r⟩ := S.led p hp; ⟨⟨o, k _ _ e, q⟩, r⟩, S.nd, S.same.trans e⟩
theorem ST.add (S : ST s₀ g L ns vs nw s) {a : Addr} {P : Pd} (h : At s.heap a P) (hg : g.get? a = none) (hL : a ≠ L) (hn : a ∉ nw.map (·.1)) : ST s₀ g L ns vs ((a, P) :: nw) s :=
  ⟨S.loc, S.nsd, S.keep, S.off, S.above, fun p hp => by
    rcases List.mem_cons.mp hp with rfl | hp
    · exact ⟨h, hg, hL⟩
    · exact S.led p hp, by rw [List.map_cons]; exact List.nodup_cons.mpr ⟨hn, S.nd⟩, S.same⟩
theorem ST.push (S : ST s₀ g L ns vs nw s) {o : Obj} {P : Pd} (hp : P o) (hf : o.isFreed = false := by rfl) : ST s₀ g L ns vs ((s.heap.objs.size, P) :: nw) { s with heap := s.heap.push o } := by
  refine (S.grow (s' := { s with heap := s.heap.push o }) (fun a o' e => Heap.get?_push_of_some _ e) ⟨rfl, rfl, rfl⟩).add ⟨o, Heap.get?_push_size _ hf, hp⟩ ?_ (Nat.ne_of_gt S.lt) ?_
  · cases q : g.get? s.heap.objs.size with
    | none => rfl
    | some o' => exact absurd (Heap.lt_size (S.keep _ _ q)) (Nat.lt_irrefl _)
  · intro q
    obtain ⟨p, hp, e⟩ := List.mem_map.mp q
    exact absurd (S.ltN hp) (by rw [e]; exact Nat.lt_irrefl _)
theorem ST.pushed (S : ST s₀ g L ns vs nw s) {o : Obj} : ST s₀ g L ns vs nw { s with heap := s.heap.push o } :=
  S.grow (s' := { s with heap := s.heap.push o }) (fun a o' e => Heap.get?_push_of_some _ e) ⟨rfl, rfl, rfl⟩
theorem ST.set (S : ST s₀ g L ns vs nw s) {x : Str} {v : Value} {vs' : List (Option Value)} (p : Put ns vs x v vs') {s' : Shared}
    (hn : ∀ m, s.heap.Ns L m → s'.heap.Ns L (fun y => if y = x then some v else m y)) (hs : ∀ b, b ≠ L → s'.heap.get? b = s.heap.get? b) (e : Same s s') : ST s₀ g L ns vs' nw s' := by
  obtain ⟨m, hm, hr⟩ := S.loc
  have ne : ∀ b o, g.get? b = some o → b ≠ L := fun b o q z => by rw [z, S.off] at q; cases q
  refine ⟨⟨_, hn m hm, fun y u h => ?_⟩, S.nsd, fun b o q => (hs b (ne b o q)).trans (S.keep b o q), S.off, S.above, fun q hq => ?_, S.nd, S.same.trans e⟩
  · rcases p.has S.nsd y u h with ⟨rfl, rfl⟩ | ⟨n, k⟩
    · exact if_pos rfl
    · rw [if_neg n]; exact hr y u k
  · obtain ⟨⟨o, e, r⟩, r2⟩ := S.led q hq
    exact ⟨⟨o, (hs _ r2.2).trans e, r⟩, r2⟩
/-- one object of the ledger changed -/
theorem ST.upd (S : ST s₀ g L ns vs nw s) {a : Addr} {P' : Pd} {nw' : List (Addr × Pd)} (u : Up a P' nw nw') {s' : Shared} (h : At s'.heap a P') (hs : ∀ b o, b ≠ a → s.heap.get? b = some o → s'.heap.get? b = some o) (e : Same s s') : ST s₀ g L ns vs nw' s' := by
  obtain ⟨P, hP⟩ := u.old
  have r := S.led _ hP
  obtain ⟨m, ⟨oL, es, ep, hL, rL⟩, hr⟩ := S.loc
  refine ⟨⟨m, ⟨oL, es, ep, hs L oL (Ne.symm r.2.2) hL, rL⟩, hr⟩, S.nsd, fun b o q => hs b o (fun z => ?_) (S.keep b o q), S.off, S.above, fun p hp => ?_, by rw [u.addr]; exact S.nd, S.same.trans e⟩
  · rw [z] at q; rw [r.2.1] at q; cases q
  · rcases u.mem S.nd p hp with rfl | ⟨hm, n⟩
    · exact ⟨h, r.2⟩
    · obtain ⟨⟨o, e, k⟩, k2⟩ := S.led p hm
      exact ⟨⟨o, hs _ o n e, k⟩, k2⟩
theorem ST.weak (S : ST s₀ g L ns vs nw s) {nw' : List (Addr × Pd)} (h : ∀ p ∈ nw', p ∈ nw) (nd : (nw'.map (·.1)).Nodup) : ST s₀ g L ns vs nw' s :=
  ⟨S.loc, S.nsd, S.keep, S.off, S.above, fun p hp => S.led p (h p hp), nd, S.same⟩
theorem ST.fr (S : ST s₀ g L ns vs nw s) : ∃ m, Fr g L s.heap m := let ⟨m, h, _⟩ := S.loc; ⟨m, h, S.keep, S.above⟩
theorem ST.tail {p : Addr × Pd} (S : ST s₀ g L ns vs (p :: nw) s) : ST s₀ g L ns vs nw s :=
  S.weak (fun _ h => .tail _ h) (by have := S.nd; rw [List.map_cons, List.nodup_cons] at this; exact this.2)
end

theorem enter {w : World} {A : Around} {R : Result → Shared → Prop} {s : Shared} {b : Heap} {name qual : Str} {params : Arguments} {body : List Stmt} {scope : Scope} {dV kV doc pm cdv ct oc : Value} {an od : Option Addr} {osl : Array (Option Value)} {f : Addr} {args : Args} (binds : List (Str × Value))
    (ns : List Str) (vs : List (Option Value)) (muts : List (Addr × Pd)) (W : Wld w b) (hb : ∀ a o, b.get? a = some o → s.heap.get? a = some o) (hm : ∀ p ∈ muts, At s.heap p.1 p.2 ∧ b.get? p.1 = none) (hnd : (muts.map (·.1)).Nodup)
    (ho : (KK w).lookup f = some ⟨oc, od, .func (fnOf name qual params body scope dV kV doc pm an cdv ct), osl⟩) (hcd : codeIn (KK w) cdv qual = true) (hroom : A.depth < recursionLimit)
    (hbind : BindsTo s (fnOf name qual params body scope dV kV doc pm an cdv ct) args binds) (hloc : ∀ y ∈ binds, scope.names.lookup y.1 = some .local)
    (hns : ns.Nodup) (hvs : ∀ x v, Has ns vs x v → binds.reverse.lookup x = some v)
    (h : ∀ g L s', (∀ a o, b.get? a = some o → g.get? a = some o) → (∀ a o, s.heap.get? a = some o → a ∉ muts.map (·.1) → g.get? a = some o) → (∀ a o, g.get? a = some o → s.heap.get? a = some o) → Wld w g →
      ST s g L ns vs muts s' →
      wpAny (model PR w) (A.deeper (envOf qual scope L f cdv)) (execs body (envOf qual scope L f cdv))
        (fun fl s' => R (.ok (.ret (match fl with | .ret v => v | _ => .none))) s')
        (fun _ _ => False) s')
    (hco : scope.isCoroutine = false := by rfl) (hgen : scope.isGenerator = false := by rfl) (hk : scope.kind = .function := by rfl)
    (hcell : ∀ x ∈ scope.names, x.2 ≠ .cell := by decide) : codeAny (model PR w) A (.call (.ref f) args) R s := by
  have X := W.X.keeps hb
  refine codeAny_call_def (fd := fnOf name qual params body scope dV kV doc pm an cdv ct) (body := body) (binds := binds) hroom (X _ _ ho) rfl (W.nl.keeps hb) (codeRec_of X hcd) rfl hbind hcell hloc (fun h₁ hns₁ hk₁ => ?_) hco hgen hk
  have gk : ∀ a o, s.heap.get? a = some o → a ∉ muts.map (·.1) → (hideAll s.heap (muts.map (·.1))).get? a = some o := fun a o e n => hideAll_get _ e n
  have bk : ∀ a o, b.get? a = some o → (hideAll s.heap (muts.map (·.1))).get? a = some o := fun a o e => gk a o (hb a o e) fun q => by
    obtain ⟨p, hp, rfl⟩ := List.mem_map.mp q
    rw [(hm p hp).2] at e; cases e
  refine wpAny_mono (h (hideAll s.heap (muts.map (·.1))) s.heap.objs.size _ bk gk (fun a o e => of_hideAll _ e) (W.keeps bk)
    ⟨⟨_, hns₁, hvs⟩, hns, fun a o e => hk₁ a o (of_hideAll _ e), ?_, Nat.le_of_eq (hideAll_size _ _), fun p hp => ?_, hnd, ⟨rfl, rfl, rfl⟩⟩) (fun _ _ x => x) fun _ _ x => x.elim
  · cases q : (hideAll s.heap (muts.map (·.1))).get? s.heap.objs.size with
    | none => rfl
    | some o => exact absurd (Heap.lt_size (of_hideAll _ q)) (Nat.lt_irrefl _)
  · obtain ⟨⟨o, e, q⟩, _⟩ := hm p hp
    exact ⟨⟨o, hk₁ _ _ e, q⟩, hideAll_none _ (List.mem_map_of_mem hp), Nat.ne_of_lt (Heap.lt_size e)⟩

/-- what a call leaves: all but muts as it was -/
theorem ST.keeps {s₀ s : Shared} {g : Heap} {L : Addr} {ns : List Str} {vs : List (Option Value)} {nw : List (Addr × Pd)} (S : ST s₀ g L ns vs nw s) {h : Heap} {m : List Addr} (hg : ∀ a o, h.get? a = some o → a ∉ m → g.get? a = some o) : Keeps m h s.heap :=
  fun a o e n => S.keep a o (hg a o e n)

/-- what a global or built-in name stands for -/
def GV (w : World) (x : Str) (v : Value) : Prop :=
  nsIn (KK w) mainGlobals x = some (some v) ∨ (nsIn (KK w) mainGlobals x = some none ∧ bootBuiltins x = some v ∧ x ≠ "__name__")

section
variable {w : World} {A : Around} {E : Value → Shared → Prop} {s₀ s : Shared} {g : Heap} {L : Addr} {ns : List Str} {vs : List (Option Value)} {nw : List (Addr × Pd)} {env : Env}

theorem r_name {x : Str} {pos : Pos} {v : Value} {Q : Value → Shared → Prop} (S : ST s₀ g L ns vs nw s) (hv : Has ns vs x v) (h : Q v s)
    (hk : env.scope.kind = .function := by rfl) (hl : env.kindOf x = some .local := by rfl) (hL : env.locals = L := by rfl) (hd : (x == ("__debug__" : Str)) = false := by decide) :
    wpAny (model PR w) A (eval (.Name x pos) env) Q E s := by
  subst hL
  obtain ⟨m, hm, hr⟩ := S.loc
  exact wpAny_Name (wpAny_loadName_local hk hl hm (hr x v hv) h) hd
theorem r_load {x : Str} {v : Value} {Q : Value → Shared → Prop} (S : ST s₀ g L ns vs nw s) (hv : Has ns vs x v) (h : Q v s)
    (hk : env.scope.kind = .function := by rfl) (hl : env.kindOf x = some .local := by rfl) (hL : env.locals = L := by rfl) :
    wpAny (model PR w) A (loadName env x) Q E s := by
  subst hL
  obtain ⟨m, hm, hr⟩ := S.loc
  exact wpAny_loadName_local hk hl hm (hr x v hv) h
theorem r_global {x : Str} {pos : Pos} {v : Value} {Q : Value → Shared → Prop} (S : ST s₀ g L ns vs nw s) (W : Wld w g) (hv : GV w x v) (h : Q v s)
    (hk : env.scope.kind = .function := by rfl) (hl : env.kindOf x = some .globalImplicit := by rfl) (hG : env.globals = mainGlobals := by rfl) (hB : env.builtins = builtinsNs := by rfl) (hd : (x == ("__debug__" : Str)) = false := by decide) :
    wpAny (model PR w) A (eval (.Name x pos) env) Q E s := by
  have W' := W.keeps S.keep
  obtain ⟨mg, hg⟩ := W'.gl
  rcases hv with e | ⟨e, hb, hn⟩
  · exact Calls.Name_function_global hk hl (Calls.loadGlobal_global (env := env) (hG ▸ hg) (mg_of W'.X hg e) h) hd
  · obtain ⟨mb, hm, hr⟩ := W'.bi
    exact Calls.Name_function_global hk hl (Calls.loadGlobal_builtin (env := env) (hG ▸ hg) (mg_none_of W'.X hg e) (hB ▸ hm) ((hr x hn).trans hb) h) hd
theorem r_store {x : Str} {v : Value} {vs' : List (Option Value)} {Q : Unit → Shared → Prop} (S : ST s₀ g L ns vs nw s) (p : Put ns vs x v vs') (h : ∀ s', ST s₀ g L ns vs' nw s' → Q () s')
    (hk : env.scope.kind = .function := by rfl) (hl : env.kindOf x = some .local := by rfl) (hL : env.locals = L := by rfl) :
    wpAny (model PR w) A (storeName env x v) Q E s := by
  subst hL
  obtain ⟨m, hm, hr⟩ := S.loc
  refine wpAny_storeName_local hl hm (fun h' hn hs => h _ ?_) (by rw [hk]; rfl)
  obtain ⟨o, es, ep, e1, e2, e3, e4⟩ := hn
  refine S.set (s' := { s with heap := h', toks := s.toks + 1 }) p (fun m' hm' => ⟨o, es, ep, e1, e2, e3, fun y => ?_⟩) hs.2 ⟨rfl, rfl, rfl⟩
  rw [e4]
  have : m' = m := by
    obtain ⟨o1, es1, ep1, a1, a2, a3, a4⟩ := hm
    obtain ⟨o2, es2, ep2, b1, b2, b3, b4⟩ := hm'
    rw [a1] at b1; cases b1
    rw [a2] at b2; cases b2
    funext z; rw [← a4, ← b4]
  rw [this]
theorem r_int {i : Int} {k : Nat} {pos : Pos} {Q : Value → Shared → Prop} (S : ST s₀ g L ns vs nw s) (h : ∀ t s', ST s₀ g L ns vs nw s' → Q (.int i t) s') :
    wpAny (model PR w) A (eval (.Constant (.int i) k pos) env) Q E s := wpAny_Constant_int (h _ _ S.tok)
theorem r_str {x : Str} {k : Nat} {pos : Pos} {Q : Value → Shared → Prop} (S : ST s₀ g L ns vs nw s) (h : ∀ t s', ST s₀ g L ns vs nw s' → Q (.str x t) s') :
    wpAny (model PR w) A (eval (.Constant (.str x) k pos) env) Q E s := Calls.Constant_str (h _ _ S.tok)
theorem r_bool {x : Bool} {k : Nat} {pos : Pos} {Q : Value → Shared → Prop} (h : Q (.bool x) s) :
    wpAny (model PR w) A (eval (.Constant (.bool x) k pos) env) Q E s := fun _ _ _ => h
theorem r_none {k : Nat} {pos : Pos} {Q : Value → Shared → Prop} (h : Q .none s) :
    wpAny (model PR w) A (eval (.Constant .none k pos) env) Q E s := fun _ _ _ => h

section
variable {a b : Int} {t u : Tok} {Q : Value → Shared → Prop}
theorem r_add (S : ST s₀ g L ns vs nw s) (h : ∀ t s', ST s₀ g L ns vs nw s' → Q (.int (a + b) t) s') : wpAny (model PR w) A (binaryOp .Add (.int a t) (.int b u)) Q E s := wpAny_add_int (h _ _ S.tok)
theorem r_iadd (S : ST s₀ g L ns vs nw s) (h : ∀ t s', ST s₀ g L ns vs nw s' → Q (.int (a + b) t) s') : wpAny (model PR w) A (inplaceOp .Add (.int a t) (.int b u)) Q E s := wpAny_iadd_int (h _ _ S.tok)
theorem r_sub (S : ST s₀ g L ns vs nw s) (h : ∀ t s', ST s₀ g L ns vs nw s' → Q (.int (a - b) t) s') : wpAny (model PR w) A (binaryOp .Sub (.int a t) (.int b u)) Q E s := PySem.P.sub_int (h _ _ S.tok)
theorem r_isub (S : ST s₀ g L ns vs nw s) (h : ∀ t s', ST s₀ g L ns vs nw s' → Q (.int (a - b) t) s') : wpAny (model PR w) A (inplaceOp .Sub (.int a t) (.int b u)) Q E s := PySem.P.isub_int (h _ _ S.tok)
theorem r_mul (S : ST s₀ g L ns vs nw s) (h : ∀ t s', ST s₀ g L ns vs nw s' → Q (.int (a * b) t) s') (hm : IntMulOk a b := by mul_fits) : wpAny (model PR w) A (binaryOp .Mult (.int a t) (.int b u)) Q E s := PySem.P.mul_int (h _ _ S.tok) hm
theorem r_mod (S : ST s₀ g L ns vs nw s) (hb : b ≠ 0) (h : ∀ t s', ST s₀ g L ns vs nw s' → Q (.int (a.fmod b) t) s') : wpAny (model PR w) A (binaryOp .Mod (.int a t) (.int b u)) Q E s := PyProof.Rows.mod_int' hb (h _ _ S.tok)
theorem r_rshift1 (S : ST s₀ g L ns vs nw s) (h0 : 0 ≤ a) (h : ∀ t s', ST s₀ g L ns vs nw s' → Q (.int (a / 2) t) s') : wpAny (model PR w) A (binaryOp .RShift (.int a t) (.int 1 u)) Q E s := wpAny_rshift1_int h0 (h _ _ S.tok)
theorem r_neg (S : ST s₀ g L ns vs nw s) (h : ∀ t s', ST s₀ g L ns vs nw s' → Q (.int (-a) t) s') : wpAny (model PR w) A (unaryOp .USub (.int a t)) Q E s := PySem.P.neg_int (h _ _ S.tok)
end

/-- a while by an invariant and a measure; P: what holds when it is left -/
def WExit (s₀ : Shared) (g : Heap) (L : Addr) (ns : List Str) (P : List (Option Value) → List (Addr × Pd) → Prop) (s : Shared) : Prop :=
  ∃ vs nw, ST s₀ g L ns vs nw s ∧ P vs nw
def WStep (s₀ : Shared) (g : Heap) (L : Addr) (ns : List Str) (J : Nat → List (Option Value) → List (Addr × Pd) → Prop) (P : List (Option Value) → List (Addr × Pd) → Prop) (Q : Flow → Shared → Prop) (n : Nat) (f : Flow) (s : Shared) : Prop :=
  match f with
  | .ret v => Q (.ret v) s
  | .brk => WExit s₀ g L ns P s
  | _ => ∃ n' vs' nw', n' < n ∧ ST s₀ g L ns vs' nw' s ∧ J n' vs' nw'
theorem r_while {test : Expr} {body : List Stmt} {pos : Pos} {Q : Flow → Shared → Prop} (J : Nat → List (Option Value) → List (Addr × Pd) → Prop) (P : List (Option Value) → List (Addr × Pd) → Prop) {n₀ : Nat}
    (S : ST s₀ g L ns vs nw s) (hJ : J n₀ vs nw)
    (turn : ∀ n vs nw s, J n vs nw → ST s₀ g L ns vs nw s →
      wpAny (model PR w) A (isTrue test env (eval test env)) (fun b s₂ =>
        if b = true then wpAny (model PR w) A (execs body env) (WStep s₀ g L ns J P Q n) (fun _ _ => False) s₂ else WExit s₀ g L ns P s₂) (fun _ _ => False) s)
    (done : ∀ vs nw s, P vs nw → ST s₀ g L ns vs nw s → Q .next s) :
    wpAny (model PR w) A (exec (.While test body [] pos) env) Q (fun _ _ => False) s := by
  refine wpAny_While (codeAny_whileLoop (fun n s' => ∃ vs nw, ST s₀ g L ns vs nw s' ∧ J n vs nw) ?_ n₀ ⟨vs, nw, S, hJ⟩)
  rintro n s' ⟨vs₁, nw₁, S₁, J₁⟩
  refine wpAny_mono (turn n vs₁ nw₁ s' J₁ S₁) (fun b s₂ h₂ => ?_) fun _ _ x => x.elim
  cases b with
  | false =>
    simp only [Bool.false_eq_true, if_false] at h₂ ⊢
    obtain ⟨vs', nw', S', p⟩ := h₂
    exact wpAny_execs_nil (done vs' nw' _ p S')
  | true =>
    simp only [if_true] at h₂ ⊢
    refine wpAny_mono h₂ (fun f s₃ q => ?_) fun _ _ x => x.elim
    cases f with
    | ret v => exact q
    | brk => obtain ⟨vs', nw', S', p⟩ := q; exact done vs' nw' _ p S'
    | next => obtain ⟨n', vs', nw', l, S', j⟩ := q; exact ⟨n', l, vs', nw', S', j⟩
    | cont => obtain ⟨n', vs', nw', l, S', j⟩ := q; exact ⟨n', l, vs', nw', S', j⟩
/-- a while that does not return from inside; what comes behind the turn is not looked at -/
theorem r_whileN {test : Expr} {body : List Stmt} {pos : Pos} {Q : Flow → Shared → Prop} (J : Nat → List (Option Value) → List (Addr × Pd) → Prop) (P : List (Option Value) → List (Addr × Pd) → Prop) {n₀ : Nat}
    (S : ST s₀ g L ns vs nw s) (hJ : J n₀ vs nw)
    (turn : ∀ n vs nw s (QB : Flow → Shared → Prop) (QX : Shared → Prop), (∀ fl s', WStep s₀ g L ns J P (fun _ _ => False) n fl s' → QB fl s') → (∀ s', WExit s₀ g L ns P s' → QX s') → J n vs nw → ST s₀ g L ns vs nw s →
      wpAny (model PR w) A (isTrue test env (eval test env)) (fun b s₂ =>
        if b = true then wpAny (model PR w) A (execs body env) QB (fun _ _ => False) s₂ else QX s₂) (fun _ _ => False) s)
    (done : ∀ vs nw s, P vs nw → ST s₀ g L ns vs nw s → Q .next s) :
    wpAny (model PR w) A (exec (.While test body [] pos) env) Q (fun _ _ => False) s := by
  refine r_while J P S hJ (fun n vs nw s j S' => turn n vs nw s _ _ (fun f s₃ q => ?_) (fun _ x => x) j S') done
  cases f with
  | ret v => exact q.elim
  | brk => exact q
  | next => exact q
  | cont => exact q
theorem s_dec {P : Prop} [Decidable P] {a b : Prop} (h1 : P → a) (h2 : ¬ P → b) : if decide P = true then a else b := by
  by_cases h : P
  · simp only [h, decide_true, if_true]; exact h1 h
  · simp only [h, decide_false, Bool.false_eq_true, if_false]; exact h2 h
theorem s_bool {x : Bool} {a b : Prop} (h1 : x = true → a) (h2 : x = false → b) : if x = true then a else b := by
  cases x with
  | true => simp only [if_true]; exact h1 rfl
  | false => simp only [Bool.false_eq_true, if_false]; exact h2 rfl

theorem r_item {value slice : Expr} {l : Addr} {items : Array Value} {k : Int} {u : Tok} {v : Value} {Q : Value → Shared → Prop}
    (hl : At s.heap l (isL items)) (h0 : 0 ≤ k) (hhi : k < 2 ^ 63) (hx : items[k.toNat]? = some v) (h : Q v s)
    (hs : subscripted slice false (.ref l) (.int k u) = operate [.ref l, .int k u] (getItem (.ref l) (.int k u)) := by with_unfolding_all rfl) :
    wpAny (model PR w) A (subscriptTail value slice (.ref l) (.int k u)) Q E s :=
  tail_any (Heap.IsList.typeIs hl) slot_list_getitem.lookup (wpAny_getItem_list hl h0 hhi hx h) hs
theorem r_itemx {value slice : Expr} {l : Addr} {items : Array Value} {k : Int} {u : Tok} {v : Value} {Q : Value → Shared → Prop}
    (hl : At s.heap l (isLx items)) (h0 : 0 ≤ k) (hhi : k < 2 ^ 63) (hx : items[k.toNat]? = some v) (h : Q v s)
    (hs : subscripted slice false (.ref l) (.int k u) = operate [.ref l, .int k u] (getItem (.ref l) (.int k u)) := by with_unfolding_all rfl) :
    wpAny (model PR w) A (subscriptTail value slice (.ref l) (.int k u)) Q E s := r_item hl.weak h0 hhi hx h hs
/-- the store into a list of the ledger, the object whole -/
theorem setItem_x {l : Addr} {items : Array Value} {k : Int} {t : Tok} {v : Value} {Q : Unit → Shared → Prop} (hl : At s.heap l (isLx items))
    (h0 : 0 ≤ k) (hfit : k < 2 ^ 63) (hn : k < items.size)
    (hQ : ∀ h', At h' l (isLx (items.setIfInBounds k.toNat v)) → Heap.SameBut l s.heap h' → Q () { s with heap := h' }) :
    wpAny (model PR w) A (setItem (.ref l) (.int k t) v) Q E s := by
  obtain ⟨o, ho, n, rfl⟩ := hl
  have hT : s.TypeIs (.ref l) "list" := ⟨_, ho, rfl⟩
  unfold setItem
  try with_reducible refine wpAny_holding ?_
  first | refine wpAny_bind (wpAny_pure ?_) | skip
  refine wpAny_bind (wpAny_sequenceKey hT (by decide) ?_)
  refine wpAny_bind (wpAny_callSpecial?_slot (name := Str.ofString "__setitem__") hT slot_list_setitem
    (wpAny_call_entry slot_list_setitem hT entry_list_setitem ?_ (args_list_setitem _ _ _)))
  show wpAny _ _ (Builtin.List.listSubscript? (.int k t) >>= _) _ _ s
  refine wpAny_bind (wpAny_listSubscript_int (fitsIndex_of h0 hfit) ?_)
  clear hfit
  obtain ⟨j, rfl⟩ := Int.eq_ofNat_of_zero_le h0
  have hj : j < items.size := by omega
  show wpAny _ _ ((seqItemAt l j >>= fun r => pure (r.map (j, ·))) >>= _) _ _ s
  refine wpAny_bind (wpAny_bind (wpAny_seqItemAt ho rfl (wpAny_pure ?_)))
  rw [Array.getElem?_eq_getElem hj]
  show wpAny _ _ (setSeqItemAt l j v >>= _) _ _ s
  have hfin : At (s.heap.update l (Obj.mapSeq (·.setIfInBounds j v))) l (isLx (items.setIfInBounds j v)) :=
    ⟨_, Heap.get?_update_self _ ho rfl, _, rfl⟩
  refine wpAny_bind (wpAny_setSeqItemAt ho rfl ?_)
  first
    | exact wpAny_bind (wpAny_pure (wpAny_pure ⟨.none, rfl, wpAny_pure (hQ _ hfin (Heap.SameBut.update ..))⟩))
    | exact wpAny_pure ⟨.none, rfl, wpAny_pure (hQ _ hfin (Heap.SameBut.update ..))⟩
theorem r_setitem {l : Addr} {items : Array Value} {k : Int} {u : Tok} {v : Value} {nw' : List (Addr × Pd)} {Q : Unit → Shared → Prop} (S : ST s₀ g L ns vs nw s)
    (hl : At s.heap l (isLx items)) (h0 : 0 ≤ k) (hhi : k < 2 ^ 63) (hx : k < items.size) (up : Up l (isLx (items.setIfInBounds k.toNat v)) nw nw') (h : ∀ s', ST s₀ g L ns vs nw' s' → Q () s') :
    wpAny (model PR w) A (setItem (.ref l) (.int k u) v) Q E s :=
  setItem_x hl h0 hhi hx fun h' hl' hs => h _ (S.upd (s' := { s with heap := h' }) up hl' (fun b o n e => (hs.2 b n).trans e) ⟨rfl, rfl, rfl⟩)
end

/-- the order of the heap's items -/
abbrev Key := Int × Str
def klt (p q : Key) : Bool := if p.1 = q.1 then (if p.2 = q.2 then false else decide (p.2.cps.toList < q.2.cps.toList)) else decide (p.1 < q.1)
def isK (k : Key) : Pd := fun o => ∃ t u, isT #[.int k.1 t, .str k.2 u] o

section
variable {w : World} {A : Around} {E : Value → Shared → Prop} {s₀ s : Shared} {g : Heap} {L : Addr} {ns : List Str} {vs : List (Option Value)} {nw : List (Addr × Pd)} {env : Env}
theorem r_lt_tup {a b : Addr} {p q : Key} {Q : Value → Shared → Prop} (hu : A.units < cLine) (ha : At s.heap a (isK p)) (hb : At s.heap b (isK q)) (h : Q (.bool (klt p q)) s) :
    wpAny (model PR w) A (compareOp .Lt (.ref a) (.ref b)) Q E s := by
  obtain ⟨oa, hoa, t1, t2, hca, na, hda⟩ := ha
  obtain ⟨ob, hob, u1, u2, hcb, nb, hdb⟩ := hb
  have hTa : s.TypeIs (.ref a) "tuple" := ⟨oa, hoa, hca⟩
  have hTb : s.TypeIs (.ref b) "tuple" := ⟨ob, hob, hcb⟩
  show wpAny _ _ (richCompare .Lt (.ref a) (.ref b)) Q E s
  refine wpAny_richCompare_same_room (op := .Lt) hTa hTb F.slot_tuple_lt (wpAny_call_entry F.slot_tuple_lt hTa F.entry_tuple_lt ?_ (F.args_tuple_lt_2 _ _)) hu
  show wpAny _ _ (isInstance (.ref b) (.type "tuple") >>= _) _ _ s
  refine wpAny_bind (wpAny_isInstance hTb isSubtype_tuple_tuple ?_)
  simp only [Bool.not_true, Bool.false_eq_true, if_false]
  refine wpAny_bind (wpAny_tupleItemsOf hoa hda ?_)
  refine wpAny_bind (wpAny_tupleItemsOf hob hdb ?_)
  simp only [List.zip_cons_cons, List.zip_nil_right, List.forIn_cons, List.forIn_nil]
  refine wpAny_bind (wpAny_bind (wpAny_bind (wpAny_eqBool_int ?_)))
  by_cases h1 : p.1 = q.1
  · rw [show (p.1 == q.1) = true by simp [h1]]
    simp only [Bool.not_true, Bool.false_eq_true, if_false]
    refine wpAny_pure ?_
    refine wpAny_bind (wpAny_bind (wpAny_eqBool_str ?_))
    by_cases h2 : p.2 = q.2
    · rw [decide_eq_true h2]
      simp only [Bool.not_true, Bool.false_eq_true, if_false]
      refine wpAny_pure (wpAny_pure ?_)
      refine wpAny_pure ⟨_, rfl, (fun e => nomatch e), ?_⟩
      have : klt p q = false := by simp [klt, h1, h2]
      rw [this] at h
      exact h
    · rw [decide_eq_false h2]
      simp only [Bool.not_false, if_true]
      refine wpAny_bind (wpAny_rule (wpAny_bind ?_))
      refine wpAny_mono (P.lt_str (Q := fun v s' => v = .bool (decide (p.2.cps.toList < q.2.cps.toList)) ∧ s' = s) ⟨rfl, rfl⟩) ?_ fun _ _ x => x
      rintro v s' ⟨rfl, rfl⟩
      have : klt p q = decide (p.2.cps.toList < q.2.cps.toList) := by simp [klt, h1, h2]
      rw [this] at h
      exact wpAny_bind (wpAny_pure (wpAny_pure (wpAny_pure (wpAny_pure ⟨_, rfl, (fun e => nomatch e), h⟩))))
  · rw [show (p.1 == q.1) = false by simp [h1]]
    simp only [Bool.not_false, if_true]
    refine wpAny_bind (wpAny_rule (wpAny_bind ?_))
    refine wpAny_mono (P.lt_int (Q := fun v s' => v = .bool (decide (p.1 < q.1)) ∧ s' = s) ⟨rfl, rfl⟩) ?_ fun _ _ x => x
    rintro v s' ⟨rfl, rfl⟩
    have : klt p q = decide (p.1 < q.1) := by simp [klt, h1]
    rw [this] at h
    exact wpAny_bind (wpAny_pure (wpAny_pure (wpAny_pure (wpAny_pure ⟨_, rfl, (fun e => nomatch e), h⟩))))
end
theorem s_tt {a b : Prop} (h : a) : if true = true then a else b := by simpa using h
theorem s_ff {a b : Prop} (h : b) : if false = true then a else b := by simpa using h
/-- a name holds this int, whatever its token -/
def isI (i : Int) (o : Option Value) : Prop := ∃ t, o = some (.int i t)
theorem isI.mk {i j : Int} {t : Tok} (h : i = j) : isI j (some (.int i t)) := ⟨t, by rw [h]⟩
section
variable {w : World} {A : Around} {E : Value → Shared → Prop} {s₀ s s' : Shared} {g : Heap} {L : Addr} {ns : List Str} {vs : List (Option Value)} {nw nw' : List (Addr × Pd)} {env : Env}
theorem ST.call0 (S : ST s₀ g L ns vs nw s) (e : Same s s') (k : Keeps [] s.heap s'.heap) : ST s₀ g L ns vs nw s' := S.grow (fun a o q => k a o q (by simp)) e
theorem ST.call1 (S : ST s₀ g L ns vs nw s) {a : Addr} {P : Pd} (u : Up a P nw nw') (e : Same s s') (k : Keeps [a] s.heap s'.heap) (h : At s'.heap a P) : ST s₀ g L ns vs nw' s' :=
  S.upd u h (fun b o n q => k b o q (by simpa using n)) e
theorem ST.fresh (S : ST s₀ g L ns vs nw s) {a : Addr} {P : Pd} (h : At s'.heap a P) (f : s.heap.get? a = none) (S' : ST s₀ g L ns vs nw s') : ST s₀ g L ns vs ((a, P) :: nw) s' := by
  refine S'.add h ?_ (fun e => ?_) fun q => ?_
  · cases q : g.get? a with
    | none => rfl
    | some o => rw [S.keep _ _ q] at f; cases f
  · obtain ⟨m, ⟨oL, es, ep, hL, _⟩, _⟩ := S.loc
    rw [e, hL] at f; cases f
  · obtain ⟨p, hp, rfl⟩ := List.mem_map.mp q
    obtain ⟨o, ho, _⟩ := (S.led p hp).1
    rw [ho] at f; cases f
theorem Wld.at {b h : Heap} (W : Wld w b) (k : ∀ a o, b.get? a = some o → h.get? a = some o) : (KK w).In h := W.X.keeps k
theorem r_append {l : Addr} {items : Array Value} {x : Value} {Q : Value → Shared → Prop} (S : ST s₀ g L ns vs nw s) (hl : At s.heap l (isLx items)) (hz : items.size ≤ sizeLine) (up : Up l (isLx (items.push x)) nw nw')
    (h : ∀ s', ST s₀ g L ns vs nw' s' → Q .none s') : wpAny (model PR w) A (call (.builtin "list.append") [.ref l, x]) Q E s := by
  obtain ⟨o, ho, n, rfl⟩ := hl
  exact append_at ho (fun h' hs hl' => h _ (S.upd (s' := { s with heap := h' }) up ⟨_, hl', _, rfl⟩ (fun b o n e => (hs.2 b n).trans e) ⟨rfl, rfl, rfl⟩)) hz
theorem r_len {l : Addr} {items : Array Value} {Q : Value → Shared → Prop} (S : ST s₀ g L ns vs nw s) (hl : At s.heap l (isL items)) (hf : (items.size : Int) < 2 ^ 63)
    (h : ∀ t s', ST s₀ g L ns vs nw s' → Q (.int items.size t) s') : wpAny (model PR w) A (call (.builtin "len") [.ref l]) Q E s := Calls.call_len_list hl hf (h _ _ S.tok)
theorem r_meth_append {l : Addr} {items : Array Value} {pl : Sem Bool} {Q : Value × List Value → Shared → Prop} (hl : At s.heap l (isLx items)) (h : Q (.builtin "list.append", [.ref l]) s) :
    wpAny (model PR w) A (getMethod (.ref l) (Str.ofString "append") pl) Q E s := by
  obtain ⟨o, ho, n, rfl⟩ := hl
  exact getMethod_builtin ⟨_, ho, rfl⟩ PySem.F.plainAttrs_list F.slot_list_append F.type_list_append (fun a e => by cases e; exact ⟨_, ho, rfl⟩) h
theorem enter1 {a : Addr} {P : Pd} {b h : Heap} (x : At h a P) (y : b.get? a = none) : ∀ p ∈ [(a, P)], At h p.1 p.2 ∧ b.get? p.1 = none := fun p hp => by
  simp only [List.mem_singleton] at hp
  subst hp
  exact ⟨x, y⟩
/-- two objects that part -/
theorem ne_at {h : Heap} {a b : Addr} {P R : Pd} (x : At h a P) (y : At h b R) (n : ∀ o, P o → R o → False) : a ≠ b := fun e => by
  obtain ⟨o, ho, p⟩ := x
  obtain ⟨o', ho', r⟩ := y
  rw [e, ho'] at ho
  cases ho
  exact n _ p r
theorem At.into {h g : Heap} {a : Addr} {P : Pd} {m : List Addr} (x : At h a P) (k : ∀ a o, h.get? a = some o → a ∉ m → g.get? a = some o) (n : a ∉ m) : At g a P := let ⟨o, e, p⟩ := x; ⟨o, k a o e n, p⟩
theorem isK_isLx {k : Key} {items : Array Value} (o : Obj) (x : isK k o) (y : isLx items o) : False := by
  obtain ⟨t, u, hc, _⟩ := x
  obtain ⟨n, rfl⟩ := y
  simp at hc
theorem r_lenx {l : Addr} {items : Array Value} {Q : Value → Shared → Prop} (S : ST s₀ g L ns vs nw s) (hl : At s.heap l (isLx items)) (hf : (items.size : Int) < 2 ^ 63)
    (h : ∀ t s', ST s₀ g L ns vs nw s' → Q (.int items.size t) s') : wpAny (model PR w) A (call (.builtin "len") [.ref l]) Q E s := r_len S hl.weak hf h
end
section
variable {w : World}
theorem gv_siftdown : GV w (Str.ofString "_siftdown") (.ref 59) := .inl (by kernel_rfl)
theorem gv_siftup : GV w (Str.ofString "_siftup") (.ref 66) := .inl (by kernel_rfl)
theorem gv_heappush : GV w (Str.ofString "heappush") (.ref 45) := .inl (by kernel_rfl)
theorem gv_heapreplace : GV w (Str.ofString "heapreplace") (.ref 52) := .inl (by kernel_rfl)
theorem gv_buffer : GV w (Str.ofString "_buffer") (.ref 73) := .inl (by kernel_rfl)
theorem gv_truth : GV w (Str.ofString "_truth") (.ref 80) := .inl (by kernel_rfl)
theorem gv_b2a : GV w (Str.ofString "b2a_base64") (.ref 88) := .inl (by kernel_rfl)
theorem gv_b64encode : GV w (Str.ofString "b64encode") (.ref 96) := .inl (by kernel_rfl)
theorem gv_Headers : GV w (Str.ofString "Headers") (.ref 229) := .inl (by kernel_rfl)
theorem gv_name_re : GV w (Str.ofString "_name_disallowed_re") (.ref 101) := .inl (by kernel_rfl)
theorem gv_value_re : GV w (Str.ofString "_value_disallowed_re") (.ref 106) := .inl (by kernel_rfl)
theorem gv_law_name : GV w (Str.ofString "_law_name") (.ref 240) := .inl (by kernel_rfl)
theorem gv_longest_ago : GV w (Str.ofString "_law_longest_ago") (.ref 247) := .inl (by kernel_rfl)
theorem gv_latest_next : GV w (Str.ofString "_law_latest_next") (.ref 252) := .inl (by kernel_rfl)
theorem gv_looking_back : GV w (Str.ofString "_law_looking_back") (.ref 259) := .inl (by kernel_rfl)
theorem gv_last_kinds : GV w (Str.ofString "_law_last_kinds") (.ref 266) := .inl (by kernel_rfl)
theorem gv_fewest : GV w (Str.ofString "_law_fewest") (.ref 271) := .inl (by kernel_rfl)
theorem gv_len : GV w (Str.ofString "len") (.builtin "len") := .inr ⟨by kernel_rfl, boot_len, by decide +kernel⟩
theorem gv_range : GV w (Str.ofString "range") (.type "range") := .inr ⟨by kernel_rfl, boot_range, by decide +kernel⟩
theorem gv_sum : GV w (Str.ofString "sum") (.builtin "sum") := .inr ⟨by kernel_rfl, boot_sum, by decide +kernel⟩
theorem gv_min : GV w (Str.ofString "min") (.builtin "min") := .inr ⟨by kernel_rfl, by first | exact boot_min | kernel_rfl, by decide +kernel⟩
theorem gv_bytes : GV w (Str.ofString "bytes") (.type "bytes") := .inr ⟨by kernel_rfl, boot_bytes, by decide +kernel⟩
theorem gv_type : GV w (Str.ofString "type") (.type "type") := .inr ⟨by kernel_rfl, boot_type, by decide +kernel⟩
theorem gv_str : GV w (Str.ofString "str") (.type "str") := .inr ⟨by kernel_rfl, by first | exact boot_str | kernel_rfl, by decide +kernel⟩
theorem gv_list : GV w (Str.ofString "list") (.type "list") := .inr ⟨by kernel_rfl, boot_list, by decide +kernel⟩
theorem gv_bool : GV w (Str.ofString "bool") (.type "bool") := .inr ⟨by kernel_rfl, by first | exact boot_bool | kernel_rfl, by decide +kernel⟩
end
/-- an iterator at I of n items: val i v, its i-th item; St i, its object; Side, what it looks at -/
structure Itr (w : World) (A : Around) (I : Addr) (n : Nat) (val : Nat → Value → Prop) (St : Nat → Pd) (Side : Heap → Prop) : Prop where
  nx : ∀ i s (Q : Option Value → Shared → Prop), i < n → At s.heap I (St i) → Side s.heap →
    (∀ s' v, val i v → At s'.heap I (St (i + 1)) → (∀ b o, b ≠ I → s.heap.get? b = some o → s'.heap.get? b = some o) → Same s s' → Q (some v) s') → wpAny (model PR w) A (pyNext (.ref I)) Q (fun _ _ => False) s
  en : ∀ s (Q : Option Value → Shared → Prop), At s.heap I (St n) → Side s.heap →
    (∀ s', (∀ b o, b ≠ I → s.heap.get? b = some o → s'.heap.get? b = some o) → Same s s' → Q none s') → wpAny (model PR w) A (pyNext (.ref I)) Q (fun _ _ => False) s
  own : ∀ i s v target (Q : Unit → Shared → Prop), At s.heap I (St i) → Q () s → wpAny (model PR w) A (letOwnedTupleGo target (.ref I) v) Q (fun _ _ => False) s
def FStep (s₀ : Shared) (g : Heap) (L : Addr) (ns : List Str) (I : Addr) (P0 : Pd) (J P : List (Option Value) → List (Addr × Pd) → Prop) (Q : Flow → Shared → Prop) (f : Flow) (s : Shared) : Prop :=
  match f with
  | .ret v => Q (.ret v) s
  | .brk => ∃ vs nw, ST s₀ g L ns vs ((I, P0) :: nw) s ∧ P vs nw
  | _ => ∃ vs nw, ST s₀ g L ns vs ((I, P0) :: nw) s ∧ J vs nw
section
variable {w : World} {A : Around} {E : Value → Shared → Prop} {s₀ s : Shared} {g : Heap} {L : Addr} {ns : List Str} {vs : List (Option Value)} {nw nw' : List (Addr × Pd)} {env : Env}
theorem ST.dropped {I : Addr} {P0 : Pd} {s' : Shared} (S : ST s₀ g L ns vs ((I, P0) :: nw) s) (hk : ∀ b o, b ≠ I → s.heap.get? b = some o → s'.heap.get? b = some o) (e : Same s s') : ST s₀ g L ns vs nw s' := by
  have r := S.led _ (.head _)
  have nd := S.nd
  rw [List.map_cons, List.nodup_cons] at nd
  obtain ⟨m, ⟨oL, es, ep, hL, rL⟩, hr⟩ := S.loc
  refine ⟨⟨m, ⟨oL, es, ep, hk L oL (Ne.symm r.2.2) hL, rL⟩, hr⟩, S.nsd, fun b o q => hk b o (fun z => ?_) (S.keep b o q), S.off, S.above, fun p hp => ?_, nd.2, S.same.trans e⟩
  · rw [z, r.2.1] at q; cases q
  · obtain ⟨⟨o, e1, k⟩, k2⟩ := S.led p (.tail _ hp)
    exact ⟨⟨o, hk _ o (fun z => nd.1 (by have := List.mem_map_of_mem (f := (·.1)) hp; rw [z] at this; exact this)) e1, k⟩, k2⟩
theorem loopI {target : Expr} {body : List Stmt} {Q : Flow → Shared → Prop} {I : Addr} {n : Nat} {val : Nat → Value → Prop} {St : Nat → Pd} {Side : Heap → Prop} (it : Itr w A I n val St Side)
    (J : Nat → List (Option Value) → List (Addr × Pd) → Prop) (P : List (Option Value) → List (Addr × Pd) → Prop)
    (S : ST s₀ g L ns vs ((I, St 0) :: nw) s) (hJ : J 0 vs nw)
    (side : ∀ i vs nw P0 s, J i vs nw → ST s₀ g L ns vs ((I, P0) :: nw) s → Side s.heap)
    (turn : ∀ i v vs nw P0 s, i < n → val i v → J i vs nw → ST s₀ g L ns vs ((I, P0) :: nw) s →
      wpAny (model PR w) A (assign target env v) (fun _ s₂ => wpAny (model PR w) A (execs body env) (FStep s₀ g L ns I P0 (J (i + 1)) P Q) (fun _ _ => False) s₂) (fun _ _ => False) s)
    (done : ∀ vs nw s, J n vs nw ∨ P vs nw → ST s₀ g L ns vs nw s → Q .next s) :
    codeAny (model PR w) A (.forLoop target (.ref I) body [] env) (fun r s' => match r with | .ok f => Q f s' | .error e => cameBackBy (model PR w) A env (fun _ _ => False) e s') s := by
  refine codeAny_forLoop_any (fun m s' => ∃ i vs nw, m = n - i ∧ i ≤ n ∧ ST s₀ g L ns vs ((I, St i) :: nw) s' ∧ J i vs nw) ?_ n ⟨0, vs, nw, rfl, Nat.zero_le _, S, hJ⟩
  rintro m s' ⟨i, vs₁, nw₁, rfl, hi, S₁, J₁⟩
  by_cases hlt : i < n
  · refine wpAny_mono (it.nx i s' (fun r s₁ => ∃ v, r = some v ∧ val i v ∧ ST s₀ g L ns vs₁ ((I, St (i + 1)) :: nw₁) s₁) hlt (S₁.new (.head _)) (side i _ _ _ _ J₁ S₁) fun s₂ v hv ha hk e => ⟨v, rfl, hv, S₁.upd .head ha hk e⟩) ?_ fun _ _ x => x.elim
    rintro _ s₁ ⟨v, rfl, hv, S₂⟩
    refine wpAny_mono (it.own (i + 1) s₁ v target (fun _ s' => s' = s₁) (S₂.new (.head _)) rfl) ?_ fun _ _ x => x.elim
    rintro _ s₁ rfl
    refine wpAny_mono (turn i v vs₁ nw₁ _ s₁ hlt hv J₁ S₂) (fun _ s₂ h₂ => ?_) fun _ _ x => x.elim
    refine wpAny_mono h₂ (fun f s₃ q => ?_) fun _ _ x => x.elim
    cases f with
    | ret v => exact q
    | brk => obtain ⟨vs', nw', S', p⟩ := q; exact done vs' nw' _ (.inr p) S'.tail
    | next => obtain ⟨vs', nw', S', j⟩ := q; exact ⟨n - (i + 1), by omega, i + 1, vs', nw', rfl, hlt, S', j⟩
    | cont => obtain ⟨vs', nw', S', j⟩ := q; exact ⟨n - (i + 1), by omega, i + 1, vs', nw', rfl, hlt, S', j⟩
  · have : i = n := by omega
    subst this
    refine wpAny_mono (it.en s' (fun r s₁ => r = none ∧ ST s₀ g L ns vs₁ nw₁ s₁) (S₁.new (.head _)) (side i _ _ _ _ J₁ S₁) fun s₂ hk e => ⟨rfl, S₁.dropped hk e⟩) ?_ fun _ _ x => x.elim
    rintro _ s₁ ⟨rfl, S₂⟩
    exact wpAny_execs_nil (done _ _ _ (.inl J₁) S₂)

def isLI (l : Addr) (i : Nat) : Pd := fun o => o.cls = .type "list_iterator" ∧ o.data = .fields #[.ref l, .int i 0]
theorem owned_no {I : Addr} {o : Obj} {T : String} {target : Expr} {v : Value} {Q : Unit → Shared → Prop} (ho : s.heap.get? I = some o) (hc : o.cls = .type T)
    (hT : ["enumerate", "zip", "dict_itemiterator", "dict_reverseitemiterator", "odict_iterator", "itertools.zip_longest", "itertools.pairwise"].contains T = false) (h : Q () s) :
    wpAny (model PR w) A (letOwnedTupleGo target (.ref I) v) Q E s := by
  have key : wpAny (model PR w) A (do
    let (.ref r, .ref a) := (Value.ref I, v) | return
    let o ← load r
    match o.cls, o.data with
    | .type n, .fields vs =>
      if ["enumerate", "zip", "dict_itemiterator", "dict_reverseitemiterator", "odict_iterator", "itertools.zip_longest", "itertools.pairwise"].contains n && vs[0]? == some (rawInt a) then
        rule "for.unpacks-the-owned-tuple"
        updateField r 0 .none
    | _, _ => pure ()) Q E s := by
    cases v with
    | ref a =>
      refine wpAny_bind (wpAny_load ho ?_)
      rw [hc]
      cases hd : o.data <;> first | exact wpAny_pure h | skip
      simp only [hT, Bool.false_and, Bool.false_eq_true, if_false]
      exact wpAny_pure h
    | _ => exact wpAny_pure h
  cases target <;> first | exact wpAny_pure h | exact key
theorem itr_list {I l : Addr} {items : Array Value} (hh : A.handled = none) : Itr w A I items.size (fun i v => items[i]? = some v) (isLI l) (fun h => At h l (isL items)) := by
  refine ⟨fun i s Q hi hI hl h => ?_, fun s Q hI hl h => ?_, fun i s v target Q hI h => ?_⟩
  · obtain ⟨o, ho, r⟩ := hI
    refine wpAny_pyNext_list_item (x := items[i]) ⟨o, ho, r⟩ hl (by simp [hi]) fun h' hi' hs => ?_
    exact h _ _ (by simp [hi]) hi' (fun b o n e => (hs.2 b n).trans e) ⟨rfl, rfl, rfl⟩
  · obtain ⟨o, ho, r⟩ := hI
    exact wpAny_pyNext_list_end hh ⟨o, ho, r⟩ hl (by simp) fun h' he => h _ (fun b o n e => he b o n e) ⟨rfl, rfl, rfl⟩
  · obtain ⟨o, ho, r⟩ := hI
    exact owned_no ho r.1 (by decide +kernel) h
/-- for target in a list -/
theorem r_for_list {target : Expr} {body : List Stmt} {Q : Flow → Shared → Prop} {l : Addr} {items : Array Value} (hh : A.handled = none)
    (J : Nat → List (Option Value) → List (Addr × Pd) → Prop) (P : List (Option Value) → List (Addr × Pd) → Prop)
    (S : ST s₀ g L ns vs nw s) (hl : At s.heap l (isL items)) (hJ : J 0 vs nw)
    (side : ∀ i vs nw s, J i vs nw → ST s₀ g L ns vs nw s → At s.heap l (isL items))
    (turn : ∀ I i v vs nw P0 s, i < items.size → items[i]? = some v → J i vs nw → ST s₀ g L ns vs ((I, P0) :: nw) s →
      wpAny (model PR w) A (assign target env v) (fun _ s₂ => wpAny (model PR w) A (execs body env) (FStep s₀ g L ns I P0 (J (i + 1)) P Q) (fun _ _ => False) s₂) (fun _ _ => False) s)
    (done : ∀ vs nw s, J items.size vs nw ∨ P vs nw → ST s₀ g L ns vs nw s → Q .next s) :
    wpAny (model PR w) A (pyIter (.ref l)) (fun it s₂ => codeAny (model PR w) A (.forLoop target it body [] env) (fun r s' => match r with | .ok f => Q f s' | .error e => cameBackBy (model PR w) A env (fun _ _ => False) e s') s₂) (fun _ _ => False) s := by
  refine wpAny_pyIter_list hl ?_
  exact loopI (itr_list hh) J P (S.push (P := isLI l 0) ⟨rfl, rfl⟩) hJ (fun i vs nw P0 s j S' => side i vs nw s j S'.tail) (fun i v vs nw P0 s hi hv j S' => turn _ i v vs nw P0 s hi hv j S') done

def isRI (x left step : Int) : Pd := fun o => o = { cls := .type "range_iterator", dict := none, data := .fields #[rawInt x, rawInt left, rawInt step], slots := #[] }
theorem itr_range {I : Addr} {a c : Int} {n : Nat} (hh : A.handled = none) : Itr w A I n (fun i v => ∃ t, v = .int (a + c * i) t) (fun i => isRI (a + c * i) (n - i) c) (fun _ => True) := by
  refine ⟨fun i s Q hi hI hl h => ?_, fun s Q hI hl h => ?_, fun i s v target Q hI h => ?_⟩
  · obtain ⟨o, ho, rfl⟩ := hI
    refine wpAny_pyNext_range_item ho (by omega) fun h' hi' hs => ?_
    refine h _ _ ⟨_, rfl⟩ ⟨_, hi', ?_⟩ (fun b o n e => (hs.2 b n).trans e) ⟨rfl, rfl, rfl⟩
    have e1 : a + c * ((i + 1 : Nat) : Int) = a + c * i + c := by rw [Int.natCast_add, Int.mul_add]; simp; omega
    have e2 : ((n : Int) - ((i + 1 : Nat) : Int)) = (n : Int) - i - 1 := by omega
    unfold isRI
    rw [e1, e2]
  · obtain ⟨o, ho, rfl⟩ := hI
    exact wpAny_pyNext_range_end hh ho (by omega) fun h' he => h _ (fun b o n e => he b o n e) ⟨rfl, rfl, rfl⟩
  · obtain ⟨o, ho, rfl⟩ := hI
    exact owned_no ho rfl (by decide +kernel) h
def isRg (a b c : Int) : Pd := fun o => ∃ t u v, o = { cls := .type "range", dict := none, data := .fields #[.int a t, .int b u, .int c v], slots := #[] }
theorem r_for_range {target : Expr} {body : List Stmt} {Q : Flow → Shared → Prop} {r : Addr} {a b c : Int} {n : Nat} (hh : A.handled = none)
    (J : Nat → List (Option Value) → List (Addr × Pd) → Prop) (P : List (Option Value) → List (Addr × Pd) → Prop)
    (S : ST s₀ g L ns vs nw s) (hr : At s.heap r (isRg a b c)) (hsm : Builtin.Range.small a b c = true) (hn : Builtin.Range.rangeSize a b c = n) (hJ : J 0 vs nw)
    (turn : ∀ I i t vs nw P0 s, i < n → J i vs nw → ST s₀ g L ns vs ((I, P0) :: nw) s →
      wpAny (model PR w) A (assign target env (.int (a + c * (i : Nat)) t)) (fun _ s₂ => wpAny (model PR w) A (execs body env) (FStep s₀ g L ns I P0 (J (i + 1)) P Q) (fun _ _ => False) s₂) (fun _ _ => False) s)
    (done : ∀ vs nw s, J n vs nw ∨ P vs nw → ST s₀ g L ns vs nw s → Q .next s) :
    wpAny (model PR w) A (pyIter (.ref r)) (fun it s₂ => codeAny (model PR w) A (.forLoop target it body [] env) (fun r s' => match r with | .ok f => Q f s' | .error e => cameBackBy (model PR w) A env (fun _ _ => False) e s') s₂) (fun _ _ => False) s := by
  obtain ⟨o, ho, t, u, v, rfl⟩ := hr
  refine wpAny_pyIter_range ho hsm ?_
  rw [hn]
  exact loopI (itr_range (a := a) (c := c) (n := n) hh) J P (S.push (P := isRI (a + c * ((0 : Nat) : Int)) (n - ((0 : Nat) : Int)) c) (by unfold isRI; simp)) hJ (fun _ _ _ _ _ _ _ => trivial)
    (fun i v vs nw P0 s hi hv j S' => by obtain ⟨t, rfl⟩ := hv; exact turn _ i t vs nw P0 s hi j S') done
theorem FStep.any {I : Addr} {P0 : Pd} {J P : List (Option Value) → List (Addr × Pd) → Prop} {Q : Flow → Shared → Prop} {f : Flow} (h : FStep s₀ g L ns I P0 J P (fun _ _ => False) f s) : FStep s₀ g L ns I P0 J P Q f s := by
  cases f with
  | ret v => exact h.elim
  | brk => exact h
  | next => exact h
  | cont => exact h
/-- for target in a list; no return from inside -/
theorem r_for_listN {target : Expr} {body : List Stmt} {Q : Flow → Shared → Prop} {l : Addr} {items : Array Value} (hh : A.handled = none)
    (J : Nat → List (Option Value) → List (Addr × Pd) → Prop) (P : List (Option Value) → List (Addr × Pd) → Prop)
    (S : ST s₀ g L ns vs nw s) (hl : At s.heap l (isL items)) (hJ : J 0 vs nw)
    (side : ∀ i vs nw s, J i vs nw → ST s₀ g L ns vs nw s → At s.heap l (isL items))
    (turn : ∀ I i v vs nw P0 s (QQ : Flow → Shared → Prop), (∀ fl s', FStep s₀ g L ns I P0 (J (i + 1)) P (fun _ _ => False) fl s' → QQ fl s') → i < items.size → items[i]? = some v → J i vs nw → ST s₀ g L ns vs ((I, P0) :: nw) s →
      wpAny (model PR w) A (assign target env v) (fun _ s₂ => wpAny (model PR w) A (execs body env) QQ (fun _ _ => False) s₂) (fun _ _ => False) s)
    (done : ∀ vs nw s, J items.size vs nw ∨ P vs nw → ST s₀ g L ns vs nw s → Q .next s) :
    wpAny (model PR w) A (pyIter (.ref l)) (fun it s₂ => codeAny (model PR w) A (.forLoop target it body [] env) (fun r s' => match r with | .ok f => Q f s' | .error e => cameBackBy (model PR w) A env (fun _ _ => False) e s') s₂) (fun _ _ => False) s :=
  r_for_list hh J P S hl hJ side (fun I i v vs nw P0 s hi hv j S' => turn I i v vs nw P0 s _ (fun _ _ q => q.any) hi hv j S') done
theorem r_for_rangeN {target : Expr} {body : List Stmt} {Q : Flow → Shared → Prop} {r : Addr} {a b c : Int} {n : Nat} (hh : A.handled = none)
    (J : Nat → List (Option Value) → List (Addr × Pd) → Prop) (P : List (Option Value) → List (Addr × Pd) → Prop)
    (S : ST s₀ g L ns vs nw s) (hr : At s.heap r (isRg a b c)) (hsm : Builtin.Range.small a b c = true) (hn : Builtin.Range.rangeSize a b c = n) (hJ : J 0 vs nw)
    (turn : ∀ I i t vs nw P0 s (QQ : Flow → Shared → Prop), (∀ fl s', FStep s₀ g L ns I P0 (J (i + 1)) P (fun _ _ => False) fl s' → QQ fl s') → i < n → J i vs nw → ST s₀ g L ns vs ((I, P0) :: nw) s →
      wpAny (model PR w) A (assign target env (.int (a + c * (i : Nat)) t)) (fun _ s₂ => wpAny (model PR w) A (execs body env) QQ (fun _ _ => False) s₂) (fun _ _ => False) s)
    (done : ∀ vs nw s, J n vs nw ∨ P vs nw → ST s₀ g L ns vs nw s → Q .next s) :
    wpAny (model PR w) A (pyIter (.ref r)) (fun it s₂ => codeAny (model PR w) A (.forLoop target it body [] env) (fun r s' => match r with | .ok f => Q f s' | .error e => cameBackBy (model PR w) A env (fun _ _ => False) e s') s₂) (fun _ _ => False) s :=
  r_for_range hh J P S hr hsm hn hJ (fun I i t vs nw P0 s hi j S' => turn I i t vs nw P0 s _ (fun _ _ q => q.any) hi j S') done
theorem r_range1 {k : Int} {t : Tok} {Q : Value → Shared → Prop} (S : ST s₀ g L ns vs nw s) (h : ∀ r s', ST s₀ g L ns vs ((r, isRg 0 k 1) :: nw) s' → Q (.ref r) s') : wpAny (model PR w) A (call (.type "range") [.int k t]) Q E s :=
  call_range_1 (h _ _ ((S.push (P := isRg 0 k 1) ⟨_, _, _, rfl⟩).tok))
theorem r_range2 {a b : Int} {t u : Tok} {Q : Value → Shared → Prop} (S : ST s₀ g L ns vs nw s) (h : ∀ r s', ST s₀ g L ns vs ((r, isRg a b 1) :: nw) s' → Q (.ref r) s') : wpAny (model PR w) A (call (.type "range") [.int a t, .int b u]) Q E s :=
  call_range_2 (h _ _ ((S.push (P := isRg a b 1) ⟨_, _, _, rfl⟩).tok))
theorem r_range3 {a b c : Int} {t u v : Tok} {Q : Value → Shared → Prop} (S : ST s₀ g L ns vs nw s) (hc : c ≠ 0) (hp : Builtin.divisionGoesByPylong (b - a) c = false) (h : ∀ r s', ST s₀ g L ns vs ((r, isRg a b c) :: nw) s' → Q (.ref r) s') : wpAny (model PR w) A (call (.type "range") [.int a t, .int b u, .int c v]) Q E s :=
  call_range_3 hc (h _ _ (S.push (P := isRg a b c) ⟨_, _, _, rfl⟩)) (.inl hp)
theorem ST.swap {p q : Addr × Pd} (S : ST s₀ g L ns vs (p :: q :: nw) s) : ST s₀ g L ns vs (q :: p :: nw) s :=
  S.weak (fun x hx => by simp only [List.mem_cons] at hx ⊢; rcases hx with h | h | h; exact .inr (.inl h); exact .inl h; exact .inr (.inr h)) (by
    have := S.nd
    simp only [List.map_cons, List.nodup_cons, List.mem_cons, not_or] at this ⊢
    exact ⟨⟨fun e => this.1.1 e.symm, this.2.1⟩, this.1.2, this.2.2⟩)
end
theorem eqN {a b : Nat} (h : a = b) : a = b := h
theorem leN {a b : Nat} (h : a ≤ b) : a ≤ b := h
/-- how an iterable begins -/
def Starts (w : World) (A : Around) (x : Value) (s : Shared) (n : Nat) (val : Nat → Value → Prop) (St : Nat → Pd) (Side : Heap → Prop) : Prop :=
  ∃ o0, St 0 o0 ∧ o0.isFreed = false ∧ (∀ (Q : Value → Shared → Prop) E, Q (.ref s.heap.objs.size) { s with heap := s.heap.push o0 } → wpAny (model PR w) A (pyIter x) Q E s) ∧
    (∀ I, Itr w A I n val St Side) ∧ ∀ I i s (Q : Value → Shared → Prop) E, At s.heap I (St i) → Q (.ref I) s → wpAny (model PR w) A (pyIter (.ref I)) Q E s
abbrev ctests (ifs : List Expr) (env : Env) : Sem Bool := forIn ifs true fun c r => if r = true then do let ok ← isTrue c env (eval c env); pure (ForInStep.yield ok) else pure (ForInStep.yield r)
/-- a turn of a comprehension ends -/
def CStep (s₀ : Shared) (g : Heap) (L : Addr) (ns : List Str) (l : List (Addr × Pd)) (K : Prop) (s : Shared) : Prop := (∃ cvs, ST s₀ g L ns cvs l s) ∧ K
def isNsD : Pd := fun o => ∃ es ep, o.data = .dict es ep ∧ StrKeys es
section
variable {w : World} {A : Around} {E : Value → Shared → Prop} {s₀ s : Shared} {g : Heap} {L : Addr} {ns : List Str} {vs : List (Option Value)} {nw nw' : List (Addr × Pd)} {env : Env}
theorem starts_list {l : Addr} {items : Array Value} (hh : A.handled = none) (hl : At s.heap l (isL items)) : Starts w A (.ref l) s items.size (fun i v => items[i]? = some v) (isLI l) (fun h => At h l (isL items)) :=
  ⟨_, ⟨rfl, rfl⟩, rfl, fun Q E h => wpAny_pyIter_list hl h, fun I => itr_list hh, fun I i s Q E hI h => wpAny_pyIter_listiter hI h⟩
theorem starts_range {r : Addr} {a b c : Int} {n : Nat} (hh : A.handled = none) (hr : At s.heap r (isRg a b c)) (hsm : Builtin.Range.small a b c = true) (hn : Builtin.Range.rangeSize a b c = n) :
    Starts w A (.ref r) s n (fun i v => ∃ t, v = .int (a + c * i) t) (fun i => isRI (a + c * i) (n - i) c) (fun _ => True) := by
  obtain ⟨o, ho, t, u, v, rfl⟩ := hr
  refine ⟨_, ?_, rfl, fun Q E h => wpAny_pyIter_range ho hsm h, fun I => itr_range hh, fun I i s Q E hI h => ?_⟩
  · unfold isRI; rw [hn]; simp
  · obtain ⟨o, ho, rfl⟩ := hI
    exact wpAny_pyIter_rangeiter ho h
theorem ST.forget {cns : List Str} {cvs n0 : List (Option Value)} (S : ST s₀ g L cns cvs nw s) (h0 : ∀ x v, ¬ Has cns n0 x v) : ST s₀ g L cns n0 nw s :=
  ⟨let ⟨m, h, _⟩ := S.loc; ⟨m, h, fun x v q => (h0 x v q).elim⟩, S.nsd, S.keep, S.off, S.above, S.led, S.nd, S.same⟩
theorem compLoopI {elt target iter : Expr} {ifs : List Expr} {scope : Scope} {pos : Pos} {I acc : Addr} {R : Result → Shared → Prop} {n : Nat} {val : Nat → Value → Prop} {St : Nat → Pd} {Side : Heap → Prop} (it : Itr w A I n val St Side)
    (K : Nat → List Value → Prop) (n0 : List (Option Value)) (h0 : ∀ x v, ¬ Has ns n0 x v) (S : ST s₀ g L ns n0 [(I, St 0), (acc, isLx #[])] s) (hK : K 0 []) (hsz : n ≤ 100000)
    (side : ∀ s : Shared, (∀ a o, g.get? a = some o → s.heap.get? a = some o) → Side s.heap)
    (turn : ∀ i v ys P0 s, i < n → val i v → K i ys → ST s₀ g L ns n0 [(I, P0), (acc, isLx ys.toArray)] s →
      wpAny (model PR w) A (assign target env v) (fun _ s₂ => wpAny (model PR w) A (ctests ifs env) (fun ok s₃ =>
        if ok = true then wpAny (model PR w) A (eval elt env) (fun y s₄ => CStep s₀ g L ns [(I, P0), (acc, isLx ys.toArray)] (K (i + 1) (ys ++ [y])) s₄) (fun _ _ => False) s₃
        else CStep s₀ g L ns [(I, P0), (acc, isLx ys.toArray)] (K (i + 1) ys) s₃) (fun _ _ => False) s₂) (fun _ _ => False) s)
    (done : ∀ ys s, K n ys → ST s₀ g L ns n0 [(acc, isLx ys.toArray)] s → R (.ok .next) s) :
    codeAny (model PR w) A (.compLoop (.ListComp elt [⟨target, iter, ifs, 0⟩] scope pos) 0 (.ref I) (.ref acc) env) R s := by
  refine codeAny_loop rfl (fun m s' => ∃ i ys, m = n - i ∧ i ≤ n ∧ ys.length ≤ i ∧ ST s₀ g L ns n0 [(I, St i), (acc, isLx ys.toArray)] s' ∧ K i ys) (fun m s' hI => ?_) n ⟨0, [], rfl, Nat.zero_le _, Nat.le_refl _, S, hK⟩
  show wpAny _ A ((compTurn (.ListComp elt [⟨target, iter, ifs, 0⟩] scope pos) 0 (.ref I) (.ref acc) env).onRaise (fun x => do noteFrame x env; theTreesLotGoes x)) _ _ s'
  refine wpAny_noted ?_
  rw [compTurn_list]
  obtain ⟨i, ys, rfl, hi, hly, S₁, K₁⟩ := hI
  refine wpAny_bind (wpAny_standAt (wpAny_bind ?_))
  by_cases hlt : i < n
  · refine wpAny_mono (it.nx i s' (fun r s₁ => ∃ v, r = some v ∧ val i v ∧ ST s₀ g L ns n0 [(I, St (i + 1)), (acc, isLx ys.toArray)] s₁) hlt (S₁.new (.head _)) (side _ S₁.keep) fun s₂ v hv ha hk e => ⟨v, rfl, hv, S₁.upd .head ha hk e⟩) ?_ fun _ _ x => x.elim
    rintro _ s₁ ⟨v, rfl, hv, S₂⟩
    refine wpAny_bind (wpAny_mono (it.own (i + 1) s₁ v target (fun _ s' => s' = s₁) (S₂.new (.head _)) rfl) ?_ fun _ _ x => x.elim)
    rintro _ s₁ rfl
    refine wpAny_bind (wpAny_mono (turn i v ys _ s₁ hlt hv K₁ S₂) (fun _ s₂ h₂ => wpAny_bind (wpAny_mono h₂ (fun ok s₃ h₃ => ?_) fun _ _ x => x.elim)) fun _ _ x => x.elim)
    cases ok with
    | false =>
      obtain ⟨⟨cvs, S₃⟩, K₃⟩ := h₃
      exact wpAny_pure ⟨rfl, n - (i + 1), by omega, i + 1, ys, rfl, hlt, by omega, S₃.forget h0, K₃⟩
    | true =>
      refine wpAny_bind (wpAny_bind (wpAny_mono h₃ (fun y s₄ h₄ => ?_) fun _ _ x => x.elim))
      obtain ⟨⟨cvs, S₄⟩, K₄⟩ := h₄
      refine wpAny_bind (r_append S₄ (S₄.new (.tail _ (.head _))) (by simp only [List.size_toArray, sizeLine]; omega) (.tail .head) fun s₅ S₅ => wpAny_pure (wpAny_pure ⟨rfl, n - (i + 1), by omega, i + 1, ys ++ [y], rfl, hlt, by simp; omega, ?_, K₄⟩))
      rw [List.push_toArray] at S₅
      exact S₅.forget h0
  · have : i = n := by omega
    subst this
    refine wpAny_mono (it.en s' (fun r s₁ => r = none ∧ ST s₀ g L ns n0 [(acc, isLx ys.toArray)] s₁) (S₁.new (.head _)) (side _ S₁.keep) fun s₂ hk e => ⟨rfl, S₁.dropped hk e⟩) ?_ fun _ _ x => x.elim
    rintro _ s₁ ⟨rfl, S₂⟩
    exact wpAny_pure (done _ _ K₁ S₂)
/-- the list of a comprehension, its iterable reckoned -/
theorem compAt {elt target iter : Expr} {ifs : List Expr} {scope : Scope} {pos : Pos} {cl : List (Str × Addr)} {x : Value} {n : Nat} {val : Nat → Value → Prop} {St : Nat → Pd} {Side : Heap → Prop} {RR : Value → Addr → Result → Shared → Prop}
    (bg : Starts w A x s n val St Side) (K : Nat → List Value → Prop) (cns : List Str) (n0 : List (Option Value)) (S : ST s₀ g L ns vs nw s)
    (side : ∀ s' : Shared, (∀ a o, s.heap.get? a = some o → s'.heap.get? a = some o) → Side s'.heap)
    (turn : ∀ C I acc i v ys P0 s', i < n → val i v → K i ys → ST s s.heap C cns n0 [(I, P0), (acc, isLx ys.toArray)] s' →
      wpAny (model PR w) A (assign target (compEnvC scope cl C env) v) (fun _ s₂ => wpAny (model PR w) A (ctests ifs (compEnvC scope cl C env)) (fun ok s₃ =>
        if ok = true then wpAny (model PR w) A (eval elt (compEnvC scope cl C env)) (fun y s₄ => CStep s s.heap C cns [(I, P0), (acc, isLx ys.toArray)] (K (i + 1) (ys ++ [y])) s₄) (fun _ _ => False) s₃
        else CStep s s.heap C cns [(I, P0), (acc, isLx ys.toArray)] (K (i + 1) ys) s₃) (fun _ _ => False) s₂) (fun _ _ => False) s')
    (done : ∀ C acc ys s', K n ys → ST s₀ g L ns vs ((C, isNsD) :: (acc, isLx ys.toArray) :: nw) s' → RR (.ref acc) C (.ok .next) s')
    (hK : K 0 []) (hsz : n ≤ 100000) (hcns : cns.Nodup) (h0 : ∀ x v, ¬ Has cns n0 x v) (hcell : ∀ y ∈ scope.names, y.2 ≠ .cell) (hkind : scope.kind = .function) :
    wpAny (model PR w) A (pyIter x) (fun it s₂ => wpAny (model PR w) A (newList []) (fun acc s₃ => wpAny (model PR w) A (newFunctionEnv scope env.globals cl [] env.qual none .none (some env)) (fun cenv s₄ =>
      codeAny (model PR w) A (.compStart (.ListComp elt [⟨target, iter, ifs, 0⟩] scope pos) 0 it acc { cenv with scope := relabel scope env }) (RR acc cenv.locals) s₄) (fun _ _ => False) s₃) (fun _ _ => False) s₂) (fun _ _ => False) s := by
  obtain ⟨o0, ho0, hf0, hpy, hit, hself⟩ := bg
  refine hpy _ _ (wpAny_newObj_type (wpAny_newFunctionEnv hcell (by intro y hy; simp at hy) (fun h₁ hns₁ hsb₁ => ?_) hkind))
  dsimp only at hns₁ hsb₁ ⊢
  have z1 : (s.heap.push o0).objs.size = s.heap.objs.size + 1 := Heap.size_push ..
  generalize hH1 : s.heap.push o0 = H1 at *
  have z2 : (H1.push { cls := .type "list", dict := none, data := .seq ([] : List Value).toArray }).objs.size = s.heap.objs.size + 2 := by rw [Heap.size_push, z1]
  generalize hH2 : H1.push { cls := .type "list", dict := none, data := .seq ([] : List Value).toArray } = H2 at *
  have keep : ∀ a o, s.heap.get? a = some o → h₁.get? a = some o := fun a o e => by
    have h1 := ltN (Heap.lt_size e)
    refine hsb₁.extBut a o (neN (by omega)) (Heap.get?_push_of_some _ ?_)
    rw [← hH2]; refine Heap.get?_push_of_some _ ?_
    rw [← hH1]; exact Heap.get?_push_of_some _ e
  have fr : ∀ a, s.heap.objs.size ≤ a → s.heap.get? a = none := fun a ha => by
    cases q : s.heap.get? a with
    | none => rfl
    | some o => have h1 := ltN (Heap.lt_size q); have h2 := leN ha; omega
  have hI : At h₁ s.heap.objs.size (St 0) := ⟨o0, hsb₁.extBut _ _ (neN (by omega)) (Heap.get?_push_of_some _ (by rw [← hH2]; exact Heap.get?_push_of_some _ (by rw [← hH1]; exact Heap.get?_push_size _ hf0))), ho0⟩
  have hA : At h₁ (s.heap.objs.size + 1) (isLx #[]) := ⟨_, hsb₁.extBut _ _ (neN (by omega)) (Heap.get?_push_of_some _ (by rw [← hH2, ← z1]; exact Heap.get?_push_size _ rfl)), _, rfl⟩
  have SI : ST s s.heap H2.objs.size cns n0 [(s.heap.objs.size, St 0), (s.heap.objs.size + 1, isLx #[])] { s with heap := h₁, toks := s.toks + 0 } :=
    ⟨⟨_, hns₁, fun x v q => (h0 x v q).elim⟩, hcns, keep, fr _ (by rw [z2]; omega), by rw [z2]; omega, fun p hp => by
      simp only [List.mem_cons, List.not_mem_nil, or_false] at hp
      rcases hp with rfl | rfl
      · exact ⟨hI, fr _ (Nat.le_refl _), neN (by dsimp only; omega)⟩
      · exact ⟨hA, fr _ (by dsimp only; omega), neN (by dsimp only; omega)⟩, by simp, ⟨rfl, rfl, rfl⟩⟩
  have loop : codeAny (model PR w) A (.compLoop (.ListComp elt [⟨target, iter, ifs, 0⟩] scope pos) 0 (.ref s.heap.objs.size) (.ref (s.heap.objs.size + 1)) (compEnvC scope cl H2.objs.size env)) (RR (.ref (s.heap.objs.size + 1)) H2.objs.size) { s with heap := h₁, toks := s.toks + 0 } := by
    refine compLoopI (hit _) K n0 h0 SI hK hsz (fun s' k => side s' k) (fun i v ys P0 s' hi hv k S' => turn _ _ _ i v ys P0 s' hi hv k S') fun ys s' k S' => done _ _ ys s' k ?_
    have S1 : ST s₀ g L ns vs nw s' := S.grow S'.keep S'.same
    have S2 := S.fresh (S'.new (.head _)) (fr _ (by omega)) S1
    obtain ⟨m, ⟨oC, es, ep, e1, e2, e3, e4⟩, _⟩ := S'.loc
    have hC : At s'.heap H2.objs.size isNsD := ⟨oC, e1, es, ep, e2, e3⟩
    refine S2.add hC ?_ (fun q => ?_) fun q => ?_
    · cases q : g.get? H2.objs.size with
      | none => rfl
      | some o => have := S.keep _ _ q; rw [fr _ (by rw [z2]; omega)] at this; cases this
    · have h1 := ltN S.lt
      have q' := eqN q
      omega
    · rw [List.map_cons] at q
      rcases List.mem_cons.mp q with q | q
      · have q' := eqN q
        dsimp only at q'
        omega
      · obtain ⟨p, hp, e⟩ := List.mem_map.mp q
        have h1 := ltN (S.ltN hp)
        have e' := eqN e
        omega
  have loop' := loop
  rw [← z1] at loop'
  refine codeAny_compStart_list (A := A) loop' (hself _ 0 _ _ _ hI loop')
end
def isC (v : Option Value) : Pd := fun o => o.data = .cell v
theorem lookup_nodup {n : Str} {c : Addr} : ∀ {l : List (Str × Addr)}, (l.map (·.1)).Nodup → (n, c) ∈ l → l.lookup n = some c
  | [], _, h => nomatch h
  | q :: r, nd, hm => by
    rw [List.map_cons, List.nodup_cons] at nd
    rw [List.lookup_cons]
    rcases List.mem_cons.mp hm with e | hm
    · subst e; simp
    · have : (n == q.1) = false := by
        cases hb : n == q.1 with
        | false => rfl
        | true => exact absurd (by rw [← beq_iff_eq.mp hb]; exact List.mem_map_of_mem (f := (·.1)) hm) nd.1
      rw [this]; exact lookup_nodup nd.2 hm
theorem enterC {w : World} {A : Around} {R : Result → Shared → Prop} {s : Shared} {b : Heap} {name qual : Str} {params : Arguments} {body : List Stmt} {scope : Scope} {dV kV doc pm cdv ct oc : Value} {an od : Option Addr} {osl : Array (Option Value)} {f : Addr} {args : List Value} (binds : List (Str × Value))
    (ns : List Str) (vs : List (Option Value)) (cs : Addr → List (Str × Addr)) (cells : Addr → List (Addr × Pd)) (muts : List (Addr × Pd)) (W : Wld w b) (hb : ∀ a o, b.get? a = some o → s.heap.get? a = some o) (hm : ∀ p ∈ muts, At s.heap p.1 p.2 ∧ b.get? p.1 = none) (hnd : (muts.map (·.1)).Nodup)
    (ho : (KK w).lookup f = some ⟨oc, od, .func (fnOf name qual params body scope dV kV doc pm an cdv ct), osl⟩) (hcd : codeIn (KK w) cdv qual = true) (hroom : A.depth < recursionLimit)
    (hbind : bindArgs (fnOf name qual params body scope dV kV doc pm an cdv ct) ⟨args, []⟩ = pure binds)
    (hkind : ∀ n, ∀ x ∈ binds, scope.names.lookup x.1 = some .local ∨ (scope.names.lookup x.1 = some .cell ∧ ((cellsFrom n scope.names []).lookup x.1).isSome = true))
    (hns : ns.Nodup) (hvs : ∀ L x v, Has ns vs x v → bindL (envX qual scope L f cdv (cs L)).kindOf binds (fun _ => none) x = some v)
    (hcs : ∀ L, cellsFrom (L + 1) scope.names [] = cs L) (hcl : ∀ L, cells L = (cs L).map fun p => (p.2, isC (bindC (envX qual scope L f cdv (cs L)).kindOf binds (fun _ => none) p.1))) (hcn : ∀ L, ((cs L).map (·.1)).Nodup)
    (h : ∀ g L s', (∀ a o, b.get? a = some o → g.get? a = some o) → (∀ a o, s.heap.get? a = some o → a ∉ muts.map (·.1) → g.get? a = some o) → (∀ a o, g.get? a = some o → s.heap.get? a = some o) → Wld w g →
      ST s g L ns vs (cells L ++ muts) s' →
      wpAny (model PR w) (A.deeper (envX qual scope L f cdv (cs L))) (execs body (envX qual scope L f cdv (cs L)))
        (fun fl s' => R (.ok (.ret (match fl with | .ret v => v | _ => .none))) s')
        (fun _ _ => False) s')
    (hco : scope.isCoroutine = false := by rfl) (hgen : scope.isGenerator = false := by rfl) (hk : scope.kind = .function := by rfl) : codeAny (model PR w) A (.call (.ref f) ⟨args, []⟩) R s := by
  have X := W.X.keeps hb
  refine codeAny_call_cells (fd := fnOf name qual params body scope dV kV doc pm an cdv ct) (body := body) (binds := binds) hroom (X _ _ ho) rfl (W.nl.keeps hb) (codeRec_of X hcd) rfl hbind rfl (hkind _) (fun s₁ IC => ?_) hco hgen hk
  have gk : ∀ a o, s.heap.get? a = some o → a ∉ muts.map (·.1) → (hideAll s.heap (muts.map (·.1))).get? a = some o := fun a o e n => hideAll_get _ e n
  have bk : ∀ a o, b.get? a = some o → (hideAll s.heap (muts.map (·.1))).get? a = some o := fun a o e => gk a o (hb a o e) fun q => by
    obtain ⟨p, hp, rfl⟩ := List.mem_map.mp q
    rw [(hm p hp).2] at e; cases e
  have hE : callEnvC (fnOf name qual params body scope dV kV doc pm an cdv ct) s.heap.objs.size f = envX qual scope s.heap.objs.size f cdv (cs s.heap.objs.size) := by
    show envX qual scope s.heap.objs.size f cdv (cellsFrom (s.heap.objs.size + 1) scope.names []) = _
    rw [hcs]
  rw [hE] at IC ⊢
  have fr : ∀ a, s.heap.objs.size ≤ a → (hideAll s.heap (muts.map (·.1))).get? a = none := fun a ha => by
    cases q : (hideAll s.heap (muts.map (·.1))).get? a with
    | none => rfl
    | some o => have h1 := ltN (Heap.lt_size (of_hideAll _ q)); have h2 := leN ha; omega
  have frs : ∀ a, s.heap.objs.size ≤ a → s.heap.get? a = none := fun a ha => by
    cases q : s.heap.get? a with
    | none => rfl
    | some o => have h1 := ltN (Heap.lt_size q); have h2 := leN ha; omega
  obtain ⟨hq, tq, eq⟩ := IC.toInCall.same
  have cellM : ∀ p ∈ cells s.heap.objs.size, ∃ n c, (n, c) ∈ cs s.heap.objs.size ∧ p = (c, isC (bindC (envX qual scope s.heap.objs.size f cdv (cs s.heap.objs.size)).kindOf binds (fun _ => none) n)) := fun p hp => by
    rw [hcl] at hp
    obtain ⟨q, hq, rfl⟩ := List.mem_map.mp hp
    exact ⟨q.1, q.2, hq, rfl⟩
  refine wpAny_mono (h (hideAll s.heap (muts.map (·.1))) s.heap.objs.size _ bk gk (fun a o e => of_hideAll _ e) (W.keeps bk)
    ⟨⟨_, IC.toInCall.ns, hvs _⟩, hns, fun a o e => IC.toInCall.keep a o (of_hideAll _ e), fr _ (Nat.le_refl _), Nat.le_of_eq (hideAll_size _ _), fun p hp => ?_, ?_, ⟨by rw [eq], by rw [eq], by rw [eq]⟩⟩) (fun _ _ x => x) fun _ _ x => x.elim
  · rcases List.mem_append.mp hp with hp | hp
    · obtain ⟨n, c, hm', rfl⟩ := cellM p hp
      have hlk := lookup_nodup (hcn s.heap.objs.size) hm'
      obtain ⟨o, ho', hd'⟩ := IC.cell n c hlk
      have hab := IC.above n c hm'
      exact ⟨⟨o, ho', hd'⟩, fr _ (Nat.le_of_lt hab), Nat.ne_of_gt hab⟩
    · obtain ⟨⟨o, e, q⟩, _⟩ := hm p hp
      exact ⟨⟨o, IC.toInCall.keep _ _ e, q⟩, hideAll_none _ (List.mem_map_of_mem hp), Nat.ne_of_lt (Heap.lt_size e)⟩
  · rw [List.map_append]
    refine List.nodup_append.mpr ⟨?_, hnd, fun a ha b' hb' e => ?_⟩
    · rw [hcl, List.map_map]
      have := IC.apart
      show List.Pairwise _ _
      rw [List.pairwise_map]
      exact this
    · obtain ⟨p, hp, rfl⟩ := List.mem_map.mp ha
      obtain ⟨n, c, hm', rfl⟩ := cellM p hp
      obtain ⟨q, hq', rfl⟩ := List.mem_map.mp hb'
      obtain ⟨⟨o, e', _⟩, _⟩ := hm q hq'
      have h1 := ltN (Heap.lt_size e')
      have h2 := ltN (IC.above n c hm')
      have h3 := eqN e
      dsimp only at h3 h2
      omega
section
variable {w : World} {A : Around} {E : Value → Shared → Prop} {s₀ s : Shared} {g : Heap} {L : Addr} {ns : List Str} {vs : List (Option Value)} {nw nw' : List (Addr × Pd)} {env : Env}
theorem r_cell {x : Str} {pos : Pos} {c : Addr} {v : Value} {Q : Value → Shared → Prop} (hc : At s.heap c (isC (some v))) (he : env.cells.lookup x = some c) (h : Q v s)
    (hk : env.scope.kind = .function) (hl : env.kindOf x = some .cell ∨ env.kindOf x = some .free) (hd : (x == ("__debug__" : Str)) = false) (hn : (x == ("__classdict__" : Str)) = false) :
    wpAny (model PR w) A (eval (.Name x pos) env) Q E s := by
  obtain ⟨o, ho, hd'⟩ := hc
  rcases hl with hl | hl
  · exact wpAny_Name (wpAny_loadName_cell hk hl he ⟨o, ho, hd'⟩ h) hd
  · exact wpAny_Name (wpAny_loadName_free hk hl he ⟨o, ho, hd'⟩ h hn) hd
theorem r_storec {x : Str} {c : Addr} {v : Value} {v₀ : Option Value} {Q : Unit → Shared → Prop} (S : ST s₀ g L ns vs nw s) (hm : (c, isC v₀) ∈ nw) (he : env.cells.lookup x = some c) (up : Up c (isC (some v)) nw nw') (h : ∀ s', ST s₀ g L ns vs nw' s' → Q () s')
    (hk : env.scope.kind = .function) (hl : env.kindOf x = some .cell) :
    wpAny (model PR w) A (storeName env x v) Q E s := by
  obtain ⟨o, ho, hd'⟩ := S.new hm
  exact wpAny_storeName_cell hk hl he ⟨o, ho, hd'⟩ fun h' hc' hs => h _ (S.upd (s' := { s with heap := h' }) up hc' (fun b o n e => (hs.2 b n).trans e) ⟨rfl, rfl, rfl⟩)
end
def isSl (l u st : Value) : Pd := fun o => o.cls = .type "slice" ∧ o.data = .fields #[l, u, st]
section
variable {w : World} {A : Around} {E : Value → Shared → Prop} {s₀ s : Shared} {g : Heap} {L : Addr} {ns : List Str} {vs : List (Option Value)} {nw nw' : List (Addr × Pd)} {env : Env}
def NewSlice (l u st : Value) (Q : Value → Shared → Prop) (s : Shared) : Prop := Q (.ref s.heap.objs.size) { s with heap := s.heap.push { cls := .type "slice", data := .fields #[l, u, st] } }
theorem r_slice {lower upper step : Option Expr} {p : Pos} {Q : Value → Shared → Prop}
    (h : wpAny (model PR w) A (evalPart lower env) (fun l s₁ => wpAny (model PR w) A (evalPart upper env) (fun u s₂ => wpAny (model PR w) A (evalPart step env) (fun st s₃ => NewSlice l u st Q s₃) E s₂) E s₁) E s) : wpAny (model PR w) A (eval (.Slice lower upper step p) env) Q E s := wpAny_Slice h
theorem r_newslice {l u st : Value} {Q : Value → Shared → Prop} (S : ST s₀ g L ns vs nw s) (h : ∀ sl s', ST s₀ g L ns vs ((sl, isSl l u st) :: nw) s' → Q (.ref sl) s') : NewSlice l u st Q s :=
  h _ _ (S.push (P := isSl l u st) ⟨rfl, rfl⟩)
/-- l[:] = a list -/
theorem setSlice_x {l sl v : Addr} {xs ys : Array Value} {Q : Unit → Shared → Prop} (hl : At s.heap l (isLx xs)) (hv : At s.heap v (isL ys)) (hs : At s.heap sl (isSl .none .none .none)) (hne : l ≠ v) (hx : xs.size ≤ 100000) (hy : ys.size ≤ 100000)
    (hQ : ∀ h', At h' l (isLx ys) → Heap.SameBut l s.heap h' → Q () { s with heap := h' }) : wpAny (model PR w) A (setItem (.ref l) (.ref sl) (.ref v)) Q E s := by
  obtain ⟨o, ho, n, rfl⟩ := hl
  obtain ⟨ov, hov, hcv, nv, hdv⟩ := hv
  obtain ⟨os, hos, hcs, hds⟩ := hs
  have hT : s.TypeIs (.ref l) "list" := ⟨_, ho, rfl⟩
  have hTs : s.TypeIs (.ref sl) "slice" := ⟨_, hos, hcs⟩
  have hTv : s.TypeIs (.ref v) "list" := ⟨_, hov, hcv⟩
  unfold setItem
  try with_reducible refine wpAny_holding ?_
  first | refine wpAny_bind (wpAny_pure ?_) | skip
  refine wpAny_bind (wpAny_sequenceKey hT (by decide) ?_)
  refine wpAny_bind (wpAny_callSpecial?_slot (name := Str.ofString "__setitem__") hT slot_list_setitem
    (wpAny_call_entry slot_list_setitem hT entry_list_setitem ?_ (args_list_setitem _ _ _)))
  show wpAny _ _ (Builtin.List.listSubscript? (.ref sl) >>= _) _ _ s
  refine wpAny_bind ?_
  unfold Builtin.List.listSubscript?
  refine wpAny_bind (wpAny_specialOf hTs slice_no_index (wpAny_pure ?_))
  show wpAny _ _ (typeOf (.ref sl) >>= _) _ _ s
  refine wpAny_bind (wpAny_typeOf hTs ?_)
  simp only [bne_self_eq_false, Bool.false_eq_true, if_false]
  refine wpAny_bind ?_
  rw [listSliceParts_eq]
  refine wpAny_bind (wpAny_field hos hds (x := .none) rfl (wpAny_bind (wpAny_listPart .none ?_)))
  show wpAny _ _ (field (.ref sl) 0 >>= _) _ _ s
  refine wpAny_bind (wpAny_field hos hds (x := .none) rfl (wpAny_bind (wpAny_listPart .none ?_)))
  refine wpAny_bind (wpAny_field hos hds (x := .none) rfl (wpAny_bind (wpAny_listPart .none (wpAny_pure ?_))))
  dsimp only
  have e1 : Builtin.List.listSameRef (.ref l) (.ref v) = false := by
    show (l == v) = false
    simpa using hne
  rw [e1]
  simp only [Bool.false_eq_true, if_false]
  refine wpAny_bind ?_
  unfold Builtin.List.listAllItems
  refine wpAny_bind (wpAny_typeOf hTv ?_)
  simp only [beq_self_eq_true, Bool.true_or, if_true]
  refine listItems_at hov hdv ?_
  refine wpAny_bind (listItems_at ho rfl ?_)
  refine wpAny_bind (wpAny_of_eq (a := sliceBounds none none none xs.size) (sliceIndices_raw none none none xs.size (by simp)) ?_)
  have e2 : sliceBounds none none none xs.size = (0, (xs.size : Int), 1) := rfl
  rw [e2]
  simp only [beq_self_eq_true, if_true]
  refine wpAny_bind (wpAny_rule ?_)
  have e3 : Builtin.List.listTooLong (xs.size + ys.size) = false := by
    unfold Builtin.List.listTooLong
    simp only [sizeLine]
    exact decide_eq_false (by omega)
  rw [e3]
  simp only [Bool.false_eq_true, if_false]
  have e4 : (max (0 : Int) (xs.size : Int)).toNat = xs.size := by omega
  have e5 : xs.extract 0 (0 : Int).toNat ++ ys ++ xs.extract xs.size xs.size = ys := by simp
  rw [e4]
  refine wpAny_bind (listUpdate_at ho rfl ?_ (by simp only [sizeLine]; omega) (by simp only [e5, sizeLine]; omega))
  refine wpAny_bind (wpAny_letGo (wpAny_pure ⟨.none, rfl, wpAny_pure (hQ _ ?_ (Heap.SameBut.update ..))⟩))
  refine ⟨_, Heap.get?_update_self _ ho rfl, ?_⟩
  simp only [Obj.mapSeq, e5]
  exact ⟨_, rfl⟩
theorem r_setslice {l sl v : Addr} {xs ys : Array Value} {Q : Unit → Shared → Prop} (S : ST s₀ g L ns vs nw s) (hl : At s.heap l (isLx xs)) (hv : At s.heap v (isL ys)) (hs : At s.heap sl (isSl .none .none .none)) (hne : l ≠ v) (hx : xs.size ≤ 100000) (hy : ys.size ≤ 100000)
    (up : Up l (isLx ys) nw nw') (h : ∀ s', ST s₀ g L ns vs nw' s' → Q () s') : wpAny (model PR w) A (setItem (.ref l) (.ref sl) (.ref v)) Q E s :=
  setSlice_x hl hv hs hne hx hy fun h' hl' hs => h _ (S.upd (s' := { s with heap := h' }) up hl' (fun b o n e => (hs.2 b n).trans e) ⟨rfl, rfl, rfl⟩)
end
section
variable {w : World} {A : Around} {E : Value → Shared → Prop} {s₀ s : Shared} {g : Heap} {L : Addr} {ns : List Str} {vs : List (Option Value)} {nw nw' : List (Addr × Pd)} {env : Env}
theorem r_newtuple {items : List Value} {Q : Value → Shared → Prop} (S : ST s₀ g L ns vs nw s) (h : ∀ a s', ST s₀ g L ns vs ((a, isT items.toArray) :: nw) s' → s.heap.get? a = none → Q (.ref a) s') (hsz : items.length ≤ sizeLine) :
    wpAny (model PR w) A (newTuple items) Q E s :=
  wpAny_newTuple (h _ _ (S.push (P := isT items.toArray) ⟨rfl, _, rfl⟩) (by
    cases q : s.heap.get? s.heap.objs.size with
    | none => rfl
    | some o => exact absurd (Heap.lt_size q) (Nat.lt_irrefl _))) hsz
theorem r_newlist {items : List Value} {Q : Value → Shared → Prop} (S : ST s₀ g L ns vs nw s) (h : ∀ a s', ST s₀ g L ns vs ((a, isLx items.toArray) :: nw) s' → Q (.ref a) s') (hsz : items.length ≤ sizeLine) :
    wpAny (model PR w) A (newList items) Q E s :=
  wpAny_newList (h _ _ (S.push (P := isLx items.toArray) ⟨_, rfl⟩)) hsz
section
variable {a b : Int} {t u : Tok} {Q : Value → Shared → Prop}
theorem r_and (S : ST s₀ g L ns vs nw s) (h : ∀ t s', ST s₀ g L ns vs nw s' → Q (.int (Builtin.bitAnd a b) t) s') : wpAny (model PR w) A (binaryOp .BitAnd (.int a t) (.int b u)) Q E s := and_int (h _ _ S.tok)
theorem r_or (S : ST s₀ g L ns vs nw s) (h : ∀ t s', ST s₀ g L ns vs nw s' → Q (.int (Builtin.bitOr a b) t) s') : wpAny (model PR w) A (binaryOp .BitOr (.int a t) (.int b u)) Q E s := or_int (h _ _ S.tok)
theorem r_shl (S : ST s₀ g L ns vs nw s) (hn : 0 ≤ b) (hn2 : b ≤ 1000000) (ha : a.natAbs < 2 ^ 64) (h : ∀ t s', ST s₀ g L ns vs nw s' → Q (.int (a * 2 ^ b.toNat) t) s') : wpAny (model PR w) A (binaryOp .LShift (.int a t) (.int b u)) Q E s := lshift_int_small hn hn2 ha (h _ _ S.tok)
theorem r_shr (S : ST s₀ g L ns vs nw s) (hn : 0 ≤ b) (h : ∀ t s', ST s₀ g L ns vs nw s' → Q (.int (a.fdiv (2 ^ b.toNat)) t) s') : wpAny (model PR w) A (binaryOp .RShift (.int a t) (.int b u)) Q E s := rshift_int hn (h _ _ S.tok)
theorem r_fdiv (S : ST s₀ g L ns vs nw s) (hb : b ≠ 0) (hp : b.natAbs.log2 < 9000) (h : ∀ t s', ST s₀ g L ns vs nw s' → Q (.int (a.fdiv b) t) s') : wpAny (model PR w) A (binaryOp .FloorDiv (.int a t) (.int b u)) Q E s := floordiv_int hb (h _ _ S.tok) (.inl (PyProof.noPylong_of_log2 hp))
theorem r_pow (S : ST s₀ g L ns vs nw s) (hn : 0 ≤ b) (hn2 : b ≤ 1000000) (ha : a.natAbs < 2 ^ 64) (h : ∀ t s', ST s₀ g L ns vs nw s' → Q (.int (a ^ b.toNat) t) s') : wpAny (model PR w) A (binaryOp .Pow (.int a t) (.int b u)) Q E s := pow_int_small hn hn2 ha (h _ _ S.tok)
end
end
section
variable {w : World} {A : Around} {E : Value → Shared → Prop} {s₀ s : Shared} {g : Heap} {L : Addr} {ns : List Str} {vs : List (Option Value)} {nw nw' : List (Addr × Pd)} {env : Env}
theorem comp_done {Q : Value → Shared → Prop} {C acc : Addr} {ys : Array Value} (S : ST s₀ g L ns vs ((C, isNsD) :: (acc, isLx ys) :: nw) s) (h : ∀ s', ST s₀ g L ns vs ((acc, isLx ys) :: nw) s' → Q (.ref acc) s') :
    compPost (model PR w) A (fun _ _ => False) none Q (.ref acc) C (.ok .next) s := by
  obtain ⟨o, ho, es, ep, e1, e2⟩ := (S.led _ (.head _)).1
  exact ⟨_, ⟨o, es, ep, ho, e1, e2, fun _ => rfl⟩, fun h' hs => h _ (S.dropped (s' := { s with heap := h' }) (fun b o n e => (hs.2 b n).trans e) ⟨rfl, rfl, rfl⟩)⟩
theorem comp_done_use {Q : Value → Shared → Prop} {u : Value → Sem Unit} {C acc : Addr} {ys : Array Value} (h : wpAny (model PR w) A (u (.ref acc)) (fun _ s' => ∃ vs' nw', ST s₀ g L ns vs' ((C, isNsD) :: nw') s' ∧ ∀ s'', ST s₀ g L ns vs' nw' s'' → Q .none s'') (fun _ _ => False) s) :
    compPost (model PR w) A (fun _ _ => False) (some u) Q (.ref acc) C (.ok .next) s := by
  refine wpAny_mono h ?_ fun _ _ x => x
  rintro _ s' ⟨vs', nw', S, hQ⟩
  obtain ⟨o, ho, es, ep, e1, e2⟩ := (S.led _ (.head _)).1
  exact ⟨_, ⟨o, es, ep, ho, e1, e2, fun _ => rfl⟩, fun h' hs => hQ _ (S.dropped (s' := { s' with heap := h' }) (fun b o n e => (hs.2 b n).trans e) ⟨rfl, rfl, rfl⟩)⟩
theorem r_listcomp {elt target iter : Expr} {ifs : List Expr} {scope : Scope} {pos : Pos} {cl : List (Str × Addr)} {Q : Value → Shared → Prop} (hclos : closureFor scope env = pure cl) (hkind : scope.kind = .function) (hnames : ∀ x ∈ scope.names, x.2 = .local → scope.names.lookup x.1 = some .local)
    (h : wpAny (model PR w) A (eval iter env) (fun x s₁ => wpAny (model PR w) A (pyIter x) (fun it s₂ => wpAny (model PR w) A (newList []) (fun acc s₃ => wpAny (model PR w) A (newFunctionEnv scope env.globals cl [] env.qual none .none (some env)) (fun cenv s₄ =>
      codeAny (model PR w) A (.compStart (.ListComp elt [⟨target, iter, ifs, 0⟩] scope pos) 0 it acc { cenv with scope := relabel scope env }) (compPost (model PR w) A (fun _ _ => False) none Q acc cenv.locals) s₄) (fun _ _ => False) s₃) (fun _ _ => False) s₂) (fun _ _ => False) s₁) (fun _ _ => False) s)
    (hs : ∀ x, foldedSetIterable iter env x = pure x := by intro _; rfl) :
    wpAny (model PR w) A (eval (.ListComp elt [⟨target, iter, ifs, 0⟩] scope pos) env) Q (fun _ _ => False) s := by
  rw [eval_ListComp]
  exact wpAny_comprehension_free (use := none) rfl hs hclos hkind hnames h
/-- x = [..]: the store comes ahead of the block's end -/
theorem r_assigncomp {elt target iter : Expr} {ifs : List Expr} {scope : Scope} {pos spos py : Pos} {y : Str} {cl : List (Str × Addr)} {Q : Flow → Shared → Prop}
    (hsw : swapsWith (.ListComp elt [⟨target, iter, ifs, 0⟩] scope pos) (some (.Name y py)) spos.line env = pure true)
    (hclos : closureFor scope env = pure cl) (hkind : scope.kind = .function) (hnames : ∀ x ∈ scope.names, x.2 = .local → scope.names.lookup x.1 = some .local)
    (h : wpAny (model PR w) A (eval iter env) (fun x s₁ => wpAny (model PR w) A (pyIter x) (fun it s₂ => wpAny (model PR w) A (newList []) (fun acc s₃ => wpAny (model PR w) A (newFunctionEnv scope env.globals cl [] env.qual none .none (some env)) (fun cenv s₄ =>
      codeAny (model PR w) A (.compStart (.ListComp elt [⟨target, iter, ifs, 0⟩] scope pos) 0 it acc { cenv with scope := relabel scope env }) (compPost (model PR w) A (fun _ _ => False) (some (assign (.Name y py) env)) (fun _ => Q .next) acc cenv.locals) s₄) (fun _ _ => False) s₃) (fun _ _ => False) s₂) (fun _ _ => False) s₁) (fun _ _ => False) s)
    (hs : ∀ x, foldedSetIterable iter env x = pure x := by intro _; rfl) :
    wpAny (model PR w) A (exec (.Assign [.Name y py] (.ListComp elt [⟨target, iter, ifs, 0⟩] scope pos) spos) env) Q (fun _ _ => False) s := by
  rw [exec_Assign_Name_used _ _ _ _ hsw]
  refine wpAny_bind (wpAny_standAt (wpAny_bind ?_))
  show wpAny _ A (do let _ ← comprehension (.ListComp elt [⟨target, iter, ifs, 0⟩] scope pos) scope env _ (newList []) false (eval iter env) (some (assign (.Name y py) env))) _ _ s
  exact wpAny_bind (wpAny_mono (wpAny_comprehension_free (use := some (assign (.Name y py) env)) (Q := fun _ s' => Q .next s') rfl hs hclos hkind hnames h) (fun _ s' hq => wpAny_pure (wpAny_pure hq)) fun _ _ e => e)
end
local macro_rules | `(tactic| walk_at "m.has") => `(tactic| first | exact Has.head | (apply Has.tail; walk_at "m.has"))
local macro_rules | `(tactic| walk_at "m.put") => `(tactic| first | exact Put.head | (apply Put.tail; walk_at "m.put"))
local macro_rules | `(tactic| walk_at "m.up") => `(tactic| first | exact Up.head | (apply Up.tail; walk_at "m.up"))
local macro_rules | `(tactic| walk_at "m.mem") => `(tactic| first | exact List.mem_cons_self | (apply List.mem_cons_of_mem; walk_at "m.mem") | assumption)
local macro_rules | `(tactic| walk_at "m.at") => `(tactic| first | exact ST.new (by assumption) (by walk_at "m.mem") | exact ST.old (by assumption) (by assumption) | assumption)
local macro_rules | `(tactic| walk_at "loadName") => `(tactic| with_reducible (refine r_load (by assumption) (by walk_at "m.has") ?_ (by kernel_rfl!) (by kernel_rfl!) (by with_unfolding_all rfl)))
local macro_rules | `(tactic| walk_at "storeName") => `(tactic| (with_reducible (refine r_store (by assumption) (by walk_at "m.put") ?_ (by kernel_rfl!) (by kernel_rfl!) (by with_unfolding_all rfl))); intro _ _)
local macro_rules | `(tactic| walk_at "eval Constant int") => `(tactic| (with_reducible (refine r_int (by assumption) ?_); intro _ _ _))
local macro_rules | `(tactic| walk_at "eval Constant str") => `(tactic| (with_reducible (refine r_str (by assumption) ?_); intro _ _ _))
local macro_rules | `(tactic| walk_at "eval Constant bool") => `(tactic| (with_reducible (refine r_bool ?_)))
local macro_rules | `(tactic| walk_at "eval Constant none") => `(tactic| (with_reducible (refine r_none ?_)))
local macro_rules | `(tactic| walk_at "binaryOp Add int int") => `(tactic| (with_reducible (refine r_add (by assumption) ?_); intro _ _ _))
local macro_rules | `(tactic| walk_at "binaryOp Sub int int") => `(tactic| (with_reducible (refine r_sub (by assumption) ?_); intro _ _ _))
local macro_rules | `(tactic| walk_at "binaryOp RShift int int") => `(tactic| (with_reducible (refine r_rshift1 (by assumption) (by omega) ?_); intro _ _ _))
local macro_rules | `(tactic| walk_at "m.hvs") => `(tactic| (refine has_all ?_; repeat (first | exact True.intro | refine And.intro rfl ?_)))
local macro_rules | `(tactic| walk_at "compareOp Gt int int") => `(tactic| with_reducible (refine P.gt_int ?_))
local macro_rules | `(tactic| walk_at "compareOp Lt int int") => `(tactic| with_reducible (refine P.lt_int ?_))
local macro_rules | `(tactic| walk_at "compareOp GtE int int") => `(tactic| with_reducible (refine P.ge_int ?_))
local macro_rules | `(tactic| walk_at "compareOp LtE int int") => `(tactic| with_reducible (refine P.le_int ?_))
local macro_rules | `(tactic| walk_at "compareOp Eq int int") => `(tactic| with_reducible (refine P.eq_int ?_))
local macro_rules | `(tactic| walk_at "compareOp NotEq int int") => `(tactic| with_reducible (refine P.ne_int ?_))
local macro_rules | `(tactic| walk_at "ite") => `(tactic| (first | with_reducible (refine s_tt ?_) | with_reducible (refine s_ff ?_) | (refine s_dec ?_ ?_ <;> intro _) | (refine s_bool ?_ ?_ <;> intro _)))
local macro_rules | `(tactic| walk_at "m.gv") => `(tactic| first | exact gv_len | exact gv_range | exact gv_siftdown | exact gv_siftup | exact gv_heappush | exact gv_heapreplace | exact gv_type | exact gv_str | exact gv_bytes | exact gv_buffer | exact gv_truth | exact gv_b2a | exact gv_b64encode | exact gv_Headers | exact gv_name_re | exact gv_value_re | exact gv_law_name | exact gv_longest_ago | exact gv_latest_next | exact gv_looking_back | exact gv_last_kinds | exact gv_fewest | exact gv_sum | exact gv_min | exact gv_list | exact gv_bool)
local macro_rules | `(tactic| walk_at "eval Name") => `(tactic| first
  | with_reducible (refine r_name (by assumption) (by walk_at "m.has") ?_ (by kernel_rfl!) (by kernel_rfl!) (by with_unfolding_all rfl) (by decide +kernel))
  | with_reducible (refine r_global (by assumption) (by assumption) (by walk_at "m.gv") ?_ (by kernel_rfl!) (by kernel_rfl!) (by with_unfolding_all rfl) (by with_unfolding_all rfl) (by decide +kernel)))
local macro_rules | `(tactic| walk_at "callWith ref") => `(tactic| (with_reducible (refine callWith_K (Wld.X (by assumption)) (by kernel_rfl!) ?_ (by with_unfolding_all rfl) (by with_unfolding_all rfl))))
local macro_rules | `(tactic| walk_at "And") => `(tactic| (with_reducible (refine ⟨Wld.at (by assumption) (ST.keep (by assumption)), ?_⟩)))
local macro_rules | `(tactic| walk_at "getMethod ref") => `(tactic| (with_reducible (refine r_meth_append (by walk_at "m.at") ?_)))
local macro_rules | `(tactic| walk_at "binaryOp Mult int int") => `(tactic| (with_reducible (refine r_mul (by assumption) ?_ (by with_unfolding_all mul_fits)); intro _ _ _))
local macro_rules | `(tactic| walk_at "inplaceOp Add int int") => `(tactic| (with_reducible (refine r_iadd (by assumption) ?_); intro _ _ _))
local macro_rules | `(tactic| walk_at "inplaceOp Sub int int") => `(tactic| (with_reducible (refine r_isub (by assumption) ?_); intro _ _ _))
local macro_rules | `(tactic| walk_at "unaryOp USub int") => `(tactic| (with_reducible (refine r_neg (by assumption) ?_); intro _ _ _))
local macro_rules | `(tactic| walk_at "binaryOp Mod int int") => `(tactic| (with_reducible (refine r_mod (by assumption) (by with_unfolding_all first | decide | omega) ?_); intro _ _ _))
local macro_rules | `(tactic| walk_at "m.ff") => `(tactic| simp only [Bool.false_eq_true, if_false, if_true, Bool.not_true, Bool.not_false])
local macro_rules | `(tactic| walk_at "exec For Tuple Attribute cons nil") => `(tactic| refine wpAny_For ?_ (by intro _; rfl))
local macro_rules | `(tactic| walk_at "exec For Name Name cons nil") => `(tactic| refine wpAny_For ?_ (by intro _; rfl))
local macro_rules | `(tactic| walk_at "exec For Name Call cons nil") => `(tactic| refine wpAny_For ?_ (by intro _; rfl))
local macro_rules | `(tactic| walk_at "pyIter ref") => `(tactic| fail "mine")
local macro_rules | `(tactic| walk_at "eval Call Attribute") => `(tactic| ((with_reducible show wpAny _ _ (eval (Expr.Call (Expr.Attribute _ _ _) _ (_ :: _) _) _) _ _ _); refine methodCall_KW ?_))
local macro_rules | `(tactic| walk_at "callWith ref") => `(tactic| first
  | (with_reducible (refine callWith_K (Wld.X (by assumption)) (by kernel_rfl!) ?_ (by with_unfolding_all rfl) (by with_unfolding_all rfl)))
  | (with_reducible (refine callWith_KW (Wld.X (by assumption)) (by kernel_rfl!) (by with_unfolding_all rfl) ?_ (by with_unfolding_all rfl) (by with_unfolding_all rfl)))
  | (with_reducible (refine callWith_K0 (Wld.at (by assumption) (ST.keep (by assumption))) (by kernel_rfl!) ?_)))
local macro_rules | `(tactic| walk_at "m.go") => `(tactic| repeat (first | walk1 | (dsimp only; walk1)))
abbrev Elt := Addr × Key
abbrev refs (es : List Elt) : Array Value := (es.map fun e => Value.ref e.1).toArray
theorem refs_get {es : List Elt} {i : Nat} {e : Elt} (h : es[i]? = some e) : (refs es)[i]? = some (.ref e.1) := by simp [refs, h]
theorem refs_set {es : List Elt} {i : Nat} {e : Elt} : (refs es).setIfInBounds i (.ref e.1) = refs (es.set i e) := by simp [refs, List.map_set]
theorem refs_size {es : List Elt} : (refs es).size = es.length := by simp [refs]

/-- siftdown from the place p -/
def sd (new : Elt) (es : List Elt) (p : Nat) : List Elt :=
  if h : 0 < p then
    (match es[(p - 1) / 2]? with
    | some q => if klt new.2 q.2 then sd new (es.set p q) ((p - 1) / 2) else es.set p new
    | none => es)
  else es.set p new
termination_by p
decreasing_by omega

theorem siftdown_spec {w : World} {A : Around} {s : Shared} {b : Heap} {hp : Addr} {es : List Elt} {pos : Nat} {new : Elt} {t0 t1 : Tok} {Q : Value → Shared → Prop} {E : Value → Shared → Prop}
   (W : Wld w b) (hb : ∀ a o, b.get? a = some o → s.heap.get? a = some o) (hbp : b.get? hp = none) (ok : Ok A 1)
   (hl : At s.heap hp (isLx (refs es))) (he : ∀ e ∈ es, At s.heap e.1 (isK e.2)) (hpos : es[pos]? = some new) (hlen : es.length < 2 ^ 60)
   (h : ∀ s', Same s s' → Keeps [hp] s.heap s'.heap → At s'.heap hp (isLx (refs (sd new es pos))) → Q .none s') :
   wpAny (model PR w) A (call (.ref 59) [.ref hp, .int 0 t0, .int pos t1]) Q E s := by
  refine wpAny_call ?_
  refine enter [(Str.ofString "heap", .ref hp), (Str.ofString "startpos", .int 0 t0), (Str.ofString "pos", .int pos t1)]
    [Str.ofString "heap", Str.ofString "startpos", Str.ofString "pos", Str.ofString "newitem", Str.ofString "parentpos", Str.ofString "parent"]
    [some (.ref hp), some (.int 0 t0), some (.int pos t1), none, none, none] [(hp, isLx (refs es))] W hb ?_ ?_ rfl rfl ok.room (BindsTo.of_eq rfl) (locs rfl) (by decide +kernel) ?_ ?_
  · exact enter1 hl hbp
  · simp
  · walk_at "m.hvs"
  · intro g L s1 hbg hsg hgs Wg S
    have hLt : pos < es.length := (List.getElem?_eq_some_iff.mp hpos).1
    have hne : ∀ e ∈ es, At g e.1 (isK e.2) := fun e m => (he e m).into hsg (by simpa using ne_at (he e m) hl isK_isLx)
    iterate 5 walk1
    refine r_itemx (by walk_at "m.at") (by omega) (by omega) (refs_get (by simpa using hpos)) ?_
    iterate 2 walk1
    refine r_whileN (fun n vs nw => ∃ es' t x1 x2, vs = [some (.ref hp), some (.int 0 t0), some (.int (n : Int) t), some (.ref new.1), x1, x2] ∧ nw = [(hp, isLx (refs es'))] ∧ es'.length = es.length ∧ n < es.length ∧ (∀ e ∈ es', At g e.1 (isK e.2)) ∧ sd new es' n = sd new es pos)
      (fun vs nw => ∃ (n : Nat) (es' : List Elt) (t : Tok) (x1 x2 : Option Value), vs = [some (.ref hp), some (.int 0 t0), some (.int (n : Int) t), some (.ref new.1), x1, x2] ∧ nw = [(hp, isLx (refs es'))] ∧ es'.length = es.length ∧ n < es.length ∧ es'.set n new = sd new es pos)
      (by assumption) ⟨es, t1, _, _, rfl, rfl, rfl, hLt, hne, rfl⟩ ?_ ?_
    · rintro n vs nw s2 QB QX hQB hQX ⟨es', t, x1, x2, rfl, rfl, hl', hn, hk', hsd⟩ S2
      have hnew : At g new.1 (isK new.2) := hne new (List.mem_of_getElem? hpos)
      iterate 6 walk1
      · rename_i hc
        have hq : ∃ q, es'[(n - 1) / 2]? = some q := ⟨_, List.getElem?_eq_getElem (by omega)⟩
        obtain ⟨q, hq⟩ := hq
        have hkq : At g q.1 (isK q.2) := hk' q (List.mem_of_getElem? hq)
        have e1 : (((n : Int) - 1) / 2).toNat = (n - 1) / 2 := by omega
        repeat walk1
        refine r_itemx (by walk_at "m.at") (by omega) (by omega) (refs_get (by rw [e1]; exact hq)) ?_
        repeat walk1
        refine r_lt_tup (ok.deeper (d := 0)).units (by walk_at "m.at") (by walk_at "m.at") ?_
        walk1
        walk1
        · rename_i hlt
          repeat walk1
          refine r_setitem (by assumption) (by walk_at "m.at") (by omega) (by omega) (by rw [refs_size]; omega) (by walk_at "m.up") ?_
          intro s3 S3
          rw [Int.toNat_natCast, refs_set] at S3
          repeat walk1
          rename_i S4
          rw [show ((n : Int) - 1) / 2 = ((((n - 1) / 2 : Nat)) : Int) by omega] at S4
          refine hQB _ _ ⟨(n - 1) / 2, _, _, by omega, S4, es'.set n q, _, _, _, rfl, rfl, by simpa using hl', by omega, ?_, ?_⟩
          · intro e he'
            rcases List.mem_or_eq_of_mem_set he' with h1 | h1
            · exact hk' e h1
            · rw [h1]; exact hkq
          · rw [← hsd]
            conv => rhs; unfold sd
            rw [dif_pos (by omega), hq]
            simp only [hlt, if_true]
        · rename_i hlt
          repeat walk1
          refine hQB _ _ ⟨_, _, by assumption, n, es', _, _, _, rfl, rfl, hl', hn, ?_⟩
          rw [← hsd]
          conv => rhs; unfold sd
          rw [dif_pos (by omega), hq]
          simp only [hlt, Bool.false_eq_true, if_false]
      · rename_i hc
        refine hQX _ ⟨_, _, by assumption, n, es', _, _, _, rfl, rfl, hl', hn, ?_⟩
        rw [← hsd]
        conv => rhs; unfold sd
        rw [dif_neg (by omega)]
    · rintro vs nw s2 ⟨n, es', t, x1, x2, rfl, rfl, hl', hn, hsd⟩ S2
      repeat walk1
      refine r_setitem (by assumption) (by walk_at "m.at") (by omega) (by omega) (by rw [refs_size]; omega) (by walk_at "m.up") ?_
      intro s3 S3
      rw [Int.toNat_natCast, refs_set, hsd] at S3
      repeat walk1
      exact h _ S3.same (S3.keeps hsg) (S3.new (.head _))
theorem refs_push {es : List Elt} {e : Elt} : (refs es).push (.ref e.1) = refs (es ++ [e]) := by simp [refs]
theorem heappush_spec {w : World} {A : Around} {s : Shared} {b : Heap} {hp : Addr} {es : List Elt} {new : Elt} {Q : Value → Shared → Prop} {E : Value → Shared → Prop}
   (W : Wld w b) (hb : ∀ a o, b.get? a = some o → s.heap.get? a = some o) (hbp : b.get? hp = none) (ok : Ok A 2)
   (hl : At s.heap hp (isLx (refs es))) (he : ∀ e ∈ es, At s.heap e.1 (isK e.2)) (hnew : At s.heap new.1 (isK new.2)) (hlen : es.length < 1000)
   (h : ∀ s', Same s s' → Keeps [hp] s.heap s'.heap → At s'.heap hp (isLx (refs (sd new (es ++ [new]) es.length))) → Q .none s') :
   wpAny (model PR w) A (call (.ref 45) [.ref hp, .ref new.1]) Q E s := by
  refine wpAny_call ?_
  refine enter [(Str.ofString "heap", .ref hp), (Str.ofString "item", .ref new.1)]
    [Str.ofString "heap", Str.ofString "item"]
    [some (.ref hp), some (.ref new.1)] [(hp, isLx (refs es))] W hb (enter1 hl hbp) (by simp) rfl rfl ok.room (BindsTo.of_eq rfl) (locs rfl) (by decide +kernel) (by walk_at "m.hvs") ?_
  intro g L s1 hbg hsg hgs Wg S
  repeat walk1
  refine r_append (by assumption) (by walk_at "m.at") (by rw [refs_size]; simp only [sizeLine]; omega) (by walk_at "m.up") ?_
  intro s2 S2
  rw [refs_push] at S2
  repeat walk1
  refine r_lenx (by assumption) (by walk_at "m.at") (by rw [refs_size, List.length_append]; simp only [List.length_singleton]; omega) ?_
  intro t2 s3 S3
  repeat walk1
  rename_i t4 s4 S4 t5 s5 S5
  rw [show ((refs (es ++ [new])).size : Int) - 1 = (es.length : Int) by rw [refs_size, List.length_append]; simp only [List.length_singleton]; omega]
  have hgK : ∀ e ∈ es ++ [new], At g e.1 (isK e.2) := fun e m => by
    rcases List.mem_append.mp m with m | m
    · exact (he e m).into hsg (by simpa using ne_at (he e m) hl isK_isLx)
    · rw [List.mem_singleton.mp m]; exact hnew.into hsg (by simpa using ne_at hnew hl isK_isLx)
  refine siftdown_spec (new := new) Wg S5.keep (S5.led _ (.head _)).2.1 ok.deeper (S5.new (.head _)) (fun e m => S5.old (hgK e m)) (by simp) (by simp only [List.length_append, List.length_singleton]; omega) ?_
  intro s6 e6 k6 l6
  have S6 := S5.call1 .head e6 k6 l6
  repeat walk1
  exact h _ S6.same (S6.keeps hsg) l6
/-- a statement is left at its end, and P holds -/
structure Nxt (P : Shared → Prop) (fl : Flow) (s : Shared) : Prop where
  e : fl = .next
  p : P s
/-- the smaller child's place -/
def kid (es : List Elt) (c : Nat) : Nat :=
  match es[c]?, es[c + 1]? with
  | some x, some y => if klt x.2 y.2 then c else c + 1
  | _, _ => c
theorem kid_le {es : List Elt} {c : Nat} : c ≤ kid es c ∧ kid es c ≤ c + 1 := by
  unfold kid
  repeat' split
  all_goals omega
theorem kid_lt {es : List Elt} {c : Nat} (h : c < es.length) : kid es c < es.length := by
  unfold kid
  split
  · rename_i h1 h2
    have := (List.getElem?_eq_some_iff.mp h2).1
    split <;> omega
  · exact h
def su (es : List Elt) (p : Nat) : List Elt × Nat :=
  if h : 2 * p + 1 < es.length then
    (match es[kid es (2 * p + 1)]? with
    | some q => su (es.set p q) (kid es (2 * p + 1))
    | none => (es, p))
  else (es, p)
termination_by es.length - p
decreasing_by
  have := kid_le (es := es) (c := 2 * p + 1)
  simp only [List.length_set]
  omega
theorem siftup_spec {w : World} {A : Around} {s : Shared} {b : Heap} {hp : Addr} {es : List Elt} {new : Elt} {t0 : Tok} {Q : Value → Shared → Prop} {E : Value → Shared → Prop}
   (W : Wld w b) (hb : ∀ a o, b.get? a = some o → s.heap.get? a = some o) (hbp : b.get? hp = none) (ok : Ok A 2)
   (hl : At s.heap hp (isLx (refs es))) (he : ∀ e ∈ es, At s.heap e.1 (isK e.2)) (hpos : es[0]? = some new) (hlen : es.length < 2 ^ 50)
   (h : ∀ s', Same s s' → Keeps [hp] s.heap s'.heap → At s'.heap hp (isLx (refs (sd new ((su es 0).1.set (su es 0).2 new) (su es 0).2))) → Q .none s') :
   wpAny (model PR w) A (call (.ref 66) [.ref hp, .int 0 t0]) Q E s := by
  refine wpAny_call ?_
  refine enter [(Str.ofString "heap", .ref hp), (Str.ofString "pos", .int 0 t0)]
    [Str.ofString "heap", Str.ofString "pos", Str.ofString "endpos", Str.ofString "startpos", Str.ofString "newitem", Str.ofString "childpos", Str.ofString "rightpos"]
    [some (.ref hp), some (.int 0 t0), none, none, none, none, none] [(hp, isLx (refs es))] W hb (enter1 hl hbp) (by simp) rfl rfl ok.room (BindsTo.of_eq rfl) (locs rfl) (by decide +kernel) (by walk_at "m.hvs") ?_
  intro g L s1 hbg hsg hgs Wg S
  have hgK : ∀ e ∈ es, At g e.1 (isK e.2) := fun e m => (he e m).into hsg (by simpa using ne_at (he e m) hl isK_isLx)
  have h0 : 0 < es.length := (List.getElem?_eq_some_iff.mp hpos).1
  repeat walk1
  refine r_lenx (by assumption) (by walk_at "m.at") (by rw [refs_size]; omega) ?_
  intro t2 s3 S3
  repeat walk1
  refine r_itemx (by walk_at "m.at") (by omega) (by omega) (refs_get (by simpa using hpos)) ?_
  repeat walk1
  refine r_whileN (fun n vs nw => ∃ (p : Nat) (es' : List Elt) (o1 o2 o3 o4 x1 : Option Value), n = es.length - p ∧ vs = [some (.ref hp), o1, o2, o3, some (.ref new.1), o4, x1] ∧ isI p o1 ∧ isI es.length o2 ∧ isI 0 o3 ∧ isI (2 * p + 1) o4 ∧ nw = [(hp, isLx (refs es'))] ∧ es'.length = es.length ∧ p < es.length ∧ (∀ e ∈ es', At g e.1 (isK e.2)) ∧ su es' p = su es 0)
    (fun vs nw => ∃ (p : Nat) (es' : List Elt) (o1 o2 o3 x1 x2 : Option Value), vs = [some (.ref hp), o1, o2, o3, some (.ref new.1), x1, x2] ∧ isI p o1 ∧ isI 0 o3 ∧ nw = [(hp, isLx (refs es'))] ∧ es'.length = es.length ∧ p < es.length ∧ (∀ e ∈ es', At g e.1 (isK e.2)) ∧ su es 0 = (es', p))
    (n₀ := es.length - 0) (by assumption) ⟨0, es, _, _, _, _, _, rfl, rfl, .mk (by simp), .mk (by rw [refs_size]), .mk rfl, .mk (by simp), rfl, rfl, h0, hgK, rfl⟩ ?_ ?_
  · rintro n vs nw s2 QB QX hQB hQX ⟨p, es', o1, o2, o3, o4, x1, rfl, rfl, ⟨t1, rfl⟩, ⟨t2, rfl⟩, ⟨t3, rfl⟩, ⟨t4, rfl⟩, rfl, hl', hp', hk', hsu⟩ S2
    iterate 5 walk1
    refine s_dec ?_ ?_ <;> intro hc
    · have hc' : 2 * p + 1 < es'.length := by omega
      obtain ⟨x, hx⟩ : ∃ x, es'[2 * p + 1]? = some x := ⟨_, List.getElem?_eq_getElem hc'⟩
      have hkx : At g x.1 (isK x.2) := hk' x (List.mem_of_getElem? hx)
      iterate 8 walk1
      refine wpAny_mono (Q := Nxt fun s' => ∃ c q o4 x5, es'[c]? = some q ∧ kid es' (2 * p + 1) = c ∧ 2 * p + 1 ≤ c ∧ c ≤ 2 * p + 2 ∧ isI c o4 ∧
        ST s g L [Str.ofString "heap", Str.ofString "pos", Str.ofString "endpos", Str.ofString "startpos", Str.ofString "newitem", Str.ofString "childpos", Str.ofString "rightpos"] [some (.ref hp), some (.int p t1), some (.int es.length t2), some (.int 0 t3), some (.ref new.1), o4, x5] [(hp, isLx (refs es'))] s') ?_ ?_ (fun _ _ e => e)
      · repeat walk1
        · refine r_itemx (by walk_at "m.at") (by omega) (by omega) (refs_get (by rw [show (2 * (p : Int) + 1).toNat = 2 * p + 1 by omega]; exact hx)) ?_
          obtain ⟨y, hy⟩ : ∃ y, es'[2 * p + 1 + 1]? = some y := ⟨_, List.getElem?_eq_getElem (by omega)⟩
          have hky : At g y.1 (isK y.2) := hk' y (List.mem_of_getElem? hy)
          repeat walk1
          refine r_itemx (by walk_at "m.at") (by omega) (by omega) (refs_get (by rw [show (2 * (p : Int) + 1 + 1).toNat = 2 * p + 1 + 1 by omega]; exact hy)) ?_
          refine r_lt_tup ((ok.deeper (d := 1)).units) (by walk_at "m.at") (by walk_at "m.at") ?_
          walk1
          cases hlt : klt x.2 y.2
          · simp only [Bool.not_false, if_true]
            repeat walk1
            refine ⟨rfl, 2 * p + 1 + 1, y, _, _, hy, ?_, by omega, by omega, ?_, by assumption⟩
            · unfold kid; rw [hx, hy]; simp [hlt]
            · exact .mk (by omega)
          · simp only [Bool.not_true, Bool.false_eq_true, if_false]
            repeat walk1
            refine ⟨rfl, 2 * p + 1, x, _, _, hx, ?_, by omega, by omega, ?_, by assumption⟩
            · unfold kid; rw [hx, hy]; simp [hlt]
            · exact .mk (by omega)
        · rename_i hr
          repeat walk1
          refine ⟨rfl, 2 * p + 1, x, _, _, hx, ?_, by omega, by omega, ?_, by assumption⟩
          · unfold kid; rw [hx, List.getElem?_eq_none (by omega)]
          · exact .mk (by omega)
      · rintro _ s5 ⟨rfl, c, q, o4, x5, hq, hkid, c1, c2, ⟨u4, rfl⟩, S5⟩
        have hcl := (List.getElem?_eq_some_iff.mp hq).1
        dsimp only
        repeat walk1
        refine r_itemx (by walk_at "m.at") (by omega) (by omega) (refs_get (by rw [Int.toNat_natCast]; exact hq)) ?_
        repeat walk1
        refine r_setitem (by assumption) (by walk_at "m.at") (by omega) (by omega) (by rw [refs_size]; omega) (by walk_at "m.up") ?_
        intro s3 S3
        rw [Int.toNat_natCast, refs_set] at S3
        repeat walk1
        refine hQB _ _ ⟨es.length - c, _, _, by omega, by assumption, c, es'.set p q, _, _, _, _, _, rfl, rfl, .mk (by omega), .mk rfl, .mk rfl, .mk (by omega), rfl, by simpa using hl', by omega, ?_, ?_⟩
        · intro e he'
          rcases List.mem_or_eq_of_mem_set he' with h1 | h1
          · exact hk' e h1
          · rw [h1]; exact hk' q (List.mem_of_getElem? hq)
        · rw [← hsu]
          conv => rhs; unfold su
          rw [dif_pos hc', hkid, hq]
    · refine hQX _ ⟨_, _, by assumption, p, es', _, _, _, _, _, rfl, .mk rfl, .mk rfl, rfl, hl', hp', hk', ?_⟩
      rw [← hsu]
      unfold su
      rw [dif_neg (by omega)]
  · rintro vs nw s2 ⟨p, es', o1, o2, o3, x1, x2, rfl, ⟨t1, rfl⟩, ⟨t3, rfl⟩, rfl, hl', hp', hk', hsu⟩ S2
    repeat walk1
    refine r_setitem (by assumption) (by walk_at "m.at") (by omega) (by omega) (by rw [refs_size]; omega) (by walk_at "m.up") ?_
    intro s3 S3
    rw [Int.toNat_natCast, refs_set] at S3
    repeat walk1
    rw [hsu] at h
    have hm : ∀ e ∈ es'.set p new, At g e.1 (isK e.2) := fun e m => by
      rcases List.mem_or_eq_of_mem_set m with h1 | h1
      · exact hk' e h1
      · rw [h1]; exact hgK new (List.mem_of_getElem? hpos)
    refine siftdown_spec (new := new) Wg S3.keep (S3.led _ (.head _)).2.1 ok.deeper (S3.new (.head _)) (fun e m => S3.old (hm e m)) (by rw [List.getElem?_set_self (by omega)]) (by simp only [List.length_set]; omega) ?_
    intro s6 e6 k6 l6
    have S6 := S3.call1 .head e6 k6 l6
    repeat walk1
    exact h _ S6.same (S6.keeps hsg) l6
theorem heapreplace_spec {w : World} {A : Around} {s : Shared} {b : Heap} {hp : Addr} {es : List Elt} {new top : Elt} {Q : Value → Shared → Prop} {E : Value → Shared → Prop}
   (W : Wld w b) (hb : ∀ a o, b.get? a = some o → s.heap.get? a = some o) (hbp : b.get? hp = none) (ok : Ok A 3)
   (hl : At s.heap hp (isLx (refs es))) (he : ∀ e ∈ es, At s.heap e.1 (isK e.2)) (hnew : At s.heap new.1 (isK new.2)) (htop : es[0]? = some top) (hlen : es.length < 1000)
   (h : ∀ s', Same s s' → Keeps [hp] s.heap s'.heap → At s'.heap hp (isLx (refs (sd new ((su (es.set 0 new) 0).1.set (su (es.set 0 new) 0).2 new) (su (es.set 0 new) 0).2))) → Q (.ref top.1) s') :
   wpAny (model PR w) A (call (.ref 52) [.ref hp, .ref new.1]) Q E s := by
  refine wpAny_call ?_
  refine enter [(Str.ofString "heap", .ref hp), (Str.ofString "item", .ref new.1)]
    [Str.ofString "heap", Str.ofString "item", Str.ofString "returnitem"]
    [some (.ref hp), some (.ref new.1), none] [(hp, isLx (refs es))] W hb (enter1 hl hbp) (by simp) rfl rfl ok.room (BindsTo.of_eq rfl) (locs rfl) (by decide +kernel) (by walk_at "m.hvs") ?_
  intro g L s1 hbg hsg hgs Wg S
  have h0 : 0 < es.length := (List.getElem?_eq_some_iff.mp htop).1
  have hgK : ∀ e ∈ es.set 0 new, At g e.1 (isK e.2) := fun e m => by
    rcases List.mem_or_eq_of_mem_set m with h1 | h1
    · exact (he e h1).into hsg (by simpa using ne_at (he e h1) hl isK_isLx)
    · rw [h1]; exact hnew.into hsg (by simpa using ne_at hnew hl isK_isLx)
  repeat walk1
  refine r_itemx (by walk_at "m.at") (by omega) (by omega) (refs_get (by simpa using htop)) ?_
  repeat walk1
  refine r_setitem (by assumption) (by walk_at "m.at") (by omega) (by omega) (by rw [refs_size]; omega) (by walk_at "m.up") ?_
  intro s3 S3
  rw [show (0 : Int).toNat = 0 from rfl, refs_set] at S3
  repeat walk1
  rename_i t4 s4 S4
  refine siftup_spec (new := new) Wg S4.keep (S4.led _ (.head _)).2.1 ok.deeper (S4.new (.head _)) (fun e m => S4.old (hgK e m)) (by rw [List.getElem?_set_self h0]) (by simp only [List.length_set]; omega) ?_
  intro s6 e6 k6 l6
  have S6 := S4.call1 .head e6 k6 l6
  repeat walk1
  exact h _ S6.same (S6.keeps hsg) l6
theorem re_plain : PlainAttrs "re.Pattern" :=
  ⟨⟨"object.__getattribute__", by rw [typeLookup_type, builtinLookup_eq_fast]; kernel_rfl, by decide +kernel⟩, by rw [typeLookup_type, builtinLookup_eq_fast]; kernel_rfl⟩
theorem re_slot : Slot "re.Pattern" "search" "re.Pattern.search" :=
  .of (owner := "re.Pattern") (n := "search") (by rw [typeLookup_type, builtinLookup_eq_fast]; kernel_rfl) (by decide +kernel) (by decide +kernel) (by decide +kernel)
    (by first | exact .inl (by decide +kernel) | exact .inr (by decide +kernel)) (by rw [isSubtype_type]; kernel_rfl)
theorem re_entry : entryFor table "re.Pattern.search" = some Builtin.«re.Pattern.search» := entryFor_of_tree (by kernel_rfl)
theorem re_type : typeOf (.builtin "re.Pattern.search") = pure (.type "method_descriptor") := by show builtinType _ = _; rw [builtinType_eq_fast]; kernel_rfl
theorem re_owner : Manifest.owners.lookup (String.ofList ['n', 'r', 'e', 't', 't', 'a', 'P', '.', 'e', 'r'].reverse) = some Manifest.sig_re_Pattern := by kernel_rfl
theorem re_args (a b : Value) : argsOk "re.Pattern.search" ⟨[a, b], []⟩ := by
  unfold argsOk; rw [signature?_of (id := "re.Pattern.search") (n := ['h', 'c', 'r', 'a', 'e', 's']) (o := ['n', 'r', 'e', 't', 't', 'a', 'P', '.', 'e', 'r']) (by kernel_rfl) re_owner]; kernel_rfl
def code1 : Array Nat := #[14, 10, 4, 1, 1, 22, 0, 31, 16, 127, 0, 13, 7, 22, 0, 31, 16, 127, 0, 1]
def code2 : Array Nat := #[14, 14, 4, 1, 1, 9, 4294966783, 0, 0, 2147483648, 0, 0, 0, 0, 0, 13, 11, 9, 4294966783, 0, 0, 2147483648, 0, 0, 0, 0, 0, 1]
theorem inSet1 {c : Nat} (h1 : 32 ≤ c) (h2 : c ≤ 126) (seen : Sre.Seen) : ∃ seen', Sre.inSet code1 c code1.size 5 true seen = .ok (false, seen') := by
  show ∃ seen', Sre.inSet code1 c 20 5 true seen = .ok (false, seen')
  unfold Sre.inSet
  show ∃ seen', (if (0 ≤ c && c ≤ 31) = true then _ else _) = Except.ok (false, seen')
  rw [if_neg (by simp; omega)]
  unfold Sre.inSet
  show ∃ seen', (if (c == 127) = true then _ else _) = Except.ok (false, seen')
  rw [if_neg (by simp; omega)]
  exact ⟨_, rfl⟩
theorem charset2 : ∀ c, c < 127 → 32 ≤ c → (code2.getD (5 + (1 + c / 32)) 0).testBit (c % 32) = false := by decide +kernel
theorem inSet2 {c : Nat} (h1 : 32 ≤ c) (h2 : c ≤ 126) (seen : Sre.Seen) : ∃ seen', Sre.inSet code2 c code2.size 5 true seen = .ok (false, seen') := by
  show ∃ seen', Sre.inSet code2 c 28 5 true seen = .ok (false, seen')
  unfold Sre.inSet
  show ∃ seen', (if (c < 256 && (code2.getD (5 + (1 + c / 32)) 0).testBit (c % 32)) = true then _ else _) = Except.ok (false, seen')
  rw [if_neg (by rw [charset2 c (by omega) h1]; simp)]
  exact ⟨_, rfl⟩
/-- no sign that the two patterns seek -/
def Clean (x : Str) : Prop := ∀ i, i < x.cps.size → 32 ≤ x.cps.getD i 0 ∧ x.cps.getD i 0 ≤ 126
def SetNo (code : Array Nat) : Prop := ∀ c, 32 ≤ c → c ≤ 126 → ∀ seen, ∃ seen', Sre.inSet code c code.size 5 true seen = .ok (false, seen')
theorem admitted_no {m : Sre.M} (hc : SetNo m.code) (hx : ∀ i, i < m.lim → 32 ≤ m.text.getD i 0 ∧ m.text.getD i 0 ≤ 126) : ∀ fuel s seen, ∃ seen', m.admitted fuel s seen = .ok (none, seen') := by
  intro fuel
  induction fuel with
  | zero => intro s seen; exact ⟨seen, rfl⟩
  | succ n ih =>
    intro s seen
    unfold Sre.M.admitted
    by_cases h : s ≥ m.lim
    · rw [if_pos h]; exact ⟨_, rfl⟩
    · rw [if_neg h]
      have q := hx s (by omega)
      obtain ⟨seen', e⟩ := hc _ q.1 q.2 seen
      rw [e]
      exact ih (s + 1) seen'
theorem runFor_fail {m : Sre.M} (h1 : m.answer = some false) (h2 : m.frames = []) (h3 : m.outcome = none) : (m.runFor Builtin.Re.reTurnSteps).outcome = some .failed := by
  have e : m.step = { m with outcome := some .failed } := by
    unfold Sre.M.step
    rw [h3, h1, h2]
    rfl
  show (Sre.M.runFor (3 + 1) m).outcome = _
  unfold Sre.M.runFor
  rw [h3, e]
  rfl
theorem attemptFrom_fails {m : Sre.M} (hs : m.hasFirstSet = true) (hc : SetNo m.code) (hx : ∀ i, i < m.lim → 32 ≤ m.text.getD i 0 ∧ m.text.getD i 0 ≤ 126) (h2 : m.frames = []) (h3 : m.outcome = none) {s : Nat} {first : Bool} :
    ((m.attemptFrom s first).runFor Builtin.Re.reTurnSteps).outcome = some .failed := by
  unfold Sre.M.attemptFrom
  rw [hs]
  simp only [Bool.not_true, Bool.false_eq_true, if_false]
  obtain ⟨seen', e⟩ := admitted_no hc hx (m.lim + 1 - s) s m.seen
  rw [e]
  exact runFor_fail rfl h2 h3
theorem search_fails {code : Array Nat} {x : Str} (hc : SetNo code) (hi : ∀ m : Sre.M, m.code = code → m.hasFirstSet = true) (hx : Clean x) :
    ((Sre.forSearch code x.cps 0 0 x.cps.size false).runFor Builtin.Re.reTurnSteps).outcome = some .failed := by
  unfold Sre.forSearch
  dsimp only
  split
  · exact runFor_fail rfl rfl rfl
  · refine attemptFrom_fails (hi _ rfl) ?_ ?_ rfl rfl
    · exact hc
    · exact hx
theorem first1 (m : Sre.M) (h : m.code = code1) : m.hasFirstSet = true := by unfold Sre.M.hasFirstSet; rw [h]; rfl
theorem first2 (m : Sre.M) (h : m.code = code2) : m.hasFirstSet = true := by unfold Sre.M.hasFirstSet; rw [h]; rfl
theorem no1 : SetNo code1 := fun _ h1 h2 seen => inSet1 h1 h2 seen
theorem no2 : SetNo code2 := fun _ h1 h2 seen => inSet2 h1 h2 seen
section
variable {w : World} {A : Around} {E : Value → Shared → Prop} {s : Shared}
theorem wp_rules {M : Model} {l : List Nat} {f : Nat → PUnit → Sem (ForInStep PUnit)} {Q : PUnit → Shared → Prop} (hf : ∀ i r (Q' : ForInStep PUnit → Shared → Prop), Q' (.yield ⟨⟩) s → wpAny M A (f i r) Q' E s) (h : Q ⟨⟩ s) : wpAny M A (forIn l (⟨⟩ : PUnit) f) Q E s := by
  induction l with
  | nil => exact wpAny_pure h
  | cons i l ih =>
    simp only [List.forIn_cons]
    exact wpAny_bind (hf i _ _ ih)
theorem reDrive_done {m : Sre.M} {o : Sre.Outcome} (h : (m.runFor Builtin.Re.reTurnSteps).outcome = some o) : Builtin.Re.reDrive (2 ^ 64) m = pure (m.runFor Builtin.Re.reTurnSteps) := by
  rw [show (2 : Nat) ^ 64 = 18446744073709551615 + 1 by decide]
  unfold Builtin.Re.reDrive
  simp [h]
theorem reRunToEnd_fails {m : Sre.M} {Q : Option Sre.M → Shared → Prop} (h : (m.runFor Builtin.Re.reTurnSteps).outcome = some .failed) (hQ : Q none s) : wpAny (model PR w) A (Builtin.Re.reRunToEnd m) Q E s := by
  unfold Builtin.Re.reRunToEnd
  rw [reDrive_done h]
  refine wpAny_bind (wpAny_pure (wpAny_bind (wp_rules (fun i r Q' q => ?_) ?_)))
  · split
    · exact wpAny_bind (wpAny_rule (wpAny_pure q))
    · exact wpAny_pure q
  · rw [h]; exact wpAny_pure hQ
theorem r_search {p q : Addr} {op oq : Obj} {x : Str} {t : Tok} {pv fl gi ig : Value} {items : Array Value} {n : Nat} {code : Array Nat} {Q : Value → Shared → Prop}
    (hp : s.heap.get? p = some op) (hcp : op.cls = .type "re.Pattern") (hdp : op.data = .fields #[pv, fl, .int 0 0, gi, ig, .ref q, .int 0 0]) (hq : s.heap.get? q = some oq) (hdq : oq.data = .seq items n) (hcode : (items.map Builtin.Re.reRawOf).map (·.toNat) = code)
    (hc : SetNo code) (hi : ∀ m : Sre.M, m.code = code → m.hasFirstSet = true) (hx : Clean x) (hz : x.cps.size ≤ 1000) (h : Q .none s) :
    wpAny (model PR w) A (call (.builtin "re.Pattern.search") [.ref p, .str x t]) Q E s := by
  refine wpAny_call_entry re_slot ⟨op, hp, hcp⟩ re_entry ?_ (re_args _ _)
  unfold Builtin.«re.Pattern.search»
  refine wpAny_bind ?_
  unfold Builtin.Re.reTarget
  refine wpAny_bind (wpAny_of_eq (a := [some (.str x t), none, none]) (by rfl) ?_)
  dsimp only
  refine wpAny_bind (wpAny_pure (wpAny_bind (wpAny_pure (wpAny_bind (wpAny_fieldsOf hp hdp ?_)))))
  refine wpAny_bind (wpAny_of_eq (a := (x.cps, 0)) (by rfl) ?_)
  rw [if_neg (by simp), if_neg (by simp [Builtin.Re.reRawNat])]
  refine wpAny_bind (wpAny_of_eq (a := ()) (by rfl) ?_)
  refine wpAny_bind (m := Builtin.Re.reRawItems (.ref q)) ?_
  unfold Builtin.Re.reRawItems
  refine wpAny_bind (wpAny_seqItems hq hdq (wpAny_pure (wpAny_pure ?_)))
  unfold Builtin.Re.reAnswer
  refine wpAny_bind (reRunToEnd_fails ?_ (wpAny_pure ⟨_, rfl, h⟩))
  simp only [Option.getD_some]
  rw [hcode, show min (Int.toNat 0) x.cps.size = 0 by simp]
  show (Sre.M.runFor _ (Sre.forSearch code x.cps 0 0 (min 9223372036854775807 x.cps.size) false)).outcome = _
  rw [Nat.min_eq_right (by omega)]
  exact search_fails hc hi hx
theorem search_name {g : Heap} {x : Str} {t : Tok} {Q : Value → Shared → Prop} (W : Wld w g) (k : ∀ a o, g.get? a = some o → s.heap.get? a = some o) (hx : Clean x) (hz : x.cps.size ≤ 1000) (h : Q .none s) :
    wpAny (model PR w) A (call (.builtin "re.Pattern.search") [.ref 101, .str x t]) Q E s :=
  r_search (p := 101) (q := 100) (W.at k _ _ (by rfl)) rfl rfl (W.at k _ _ (by rfl)) rfl (by simp [code1, Builtin.Re.reRawOf]) no1 first1 hx hz h
theorem search_value {g : Heap} {x : Str} {t : Tok} {Q : Value → Shared → Prop} (W : Wld w g) (k : ∀ a o, g.get? a = some o → s.heap.get? a = some o) (hx : Clean x) (hz : x.cps.size ≤ 1000) (h : Q .none s) :
    wpAny (model PR w) A (call (.builtin "re.Pattern.search") [.ref 106, .str x t]) Q E s :=
  r_search (p := 106) (q := 105) (W.at k _ _ (by rfl)) rfl rfl (W.at k _ _ (by rfl)) rfl (by simp [code2, Builtin.Re.reRawOf]) no2 first2 hx hz h
end
def isInst (dx : Addr) : Pd := fun o => o = instObj 229 dx
def isHD (l : Addr) : Pd := fun o => ∃ hs tk n, o = dictOf [⟨hs, .str (Str.ofString "_headers") tk, .ref l⟩] n
/-- the table x: its list l -/
def Tab (h : Heap) (x l : Addr) : Prop := ∃ dx, At h x (isInst dx) ∧ At h dx (isHD l)
theorem Tab.keeps {h h' : Heap} {x l : Addr} {m : List Addr} (T : Tab h x l) (k : ∀ a o, h.get? a = some o → a ∉ m → h'.get? a = some o) (hm : ∀ a ∈ m, ∃ items, At h a (isLx items)) : Tab h' x l := by
  obtain ⟨dx, hx, hd⟩ := T
  have n1 : x ∉ m := fun q => by
    obtain ⟨it, h2⟩ := hm x q
    obtain ⟨o, e, rfl⟩ := hx
    obtain ⟨o', e', n, r⟩ := h2
    rw [e] at e'; cases e'; simp at r
  have n2 : dx ∉ m := fun q => by
    obtain ⟨it, h2⟩ := hm dx q
    obtain ⟨o, e, hs, tk, n, rfl⟩ := hd
    obtain ⟨o', e', n, r⟩ := h2
    rw [e] at e'; cases e'; simp at r
  exact ⟨dx, hx.into k n1, hd.into k n2⟩
theorem Tab.grow {h h' : Heap} {x l : Addr} (T : Tab h x l) (k : ∀ a o, h.get? a = some o → h'.get? a = some o) : Tab h' x l := by
  obtain ⟨dx, ⟨o, e, p⟩, ⟨o', e', p'⟩⟩ := T
  exact ⟨dx, ⟨o, k _ _ e, p⟩, ⟨o', k _ _ e', p'⟩⟩
theorem Tab.inst {h : Heap} {x l : Addr} (T : Tab h x l) : ∃ dx hs tk n, InstAt h x (instObj 229 dx) 229 (some (dictOf [⟨hs, .str (Str.ofString "_headers") tk, .ref l⟩] n)) := by
  obtain ⟨dx, ⟨o, e, rfl⟩, ⟨o', e', hs, tk, n, rfl⟩⟩ := T
  exact ⟨dx, hs, tk, n, ⟨e, rfl, rfl, e'⟩⟩
section
variable {w : World} {A : Around} {E : Value → Shared → Prop} {s₀ s : Shared} {g : Heap} {L : Addr} {ns : List Str} {vs : List (Option Value)} {nw : List (Addr × Pd)} {env : Env}
theorem K_ga : findIn (KK w) (.ref 229) "__getattribute__" = some (some (.builtin "object.__getattribute__")) := by kernel_rfl
theorem K_gattr : findIn (KK w) (.ref 229) "__getattr__" = some none := by kernel_rfl
theorem K_convert : findIn (KK w) (.ref 229) (Str.ofString "_convert_string_type") = some (some (.ref 128)) := by kernel_rfl
theorem K_get : findIn (KK w) (.ref 229) (Str.ofString "get") = some (some (.ref 176)) := by kernel_rfl
theorem K_keys : findIn (KK w) (.ref 229) (Str.ofString "keys") = some (some (.ref 181)) := by kernel_rfl
theorem K_contains : findIn (KK w) (.ref 229) "__contains__" = some (some (.ref 161)) := by kernel_rfl
theorem K_len : findIn (KK w) (.ref 229) "__len__" = some (some (.ref 135)) := by kernel_rfl
theorem K_setitem : findIn (KK w) (.ref 229) "__setitem__" = some (some (.ref 142)) := by kernel_rfl
theorem K_delitem : findIn (KK w) (.ref 229) "__delitem__" = some (some (.ref 147)) := by kernel_rfl
theorem K_init : findIn (KK w) (.ref 229) "__init__" = some (some (.ref 121)) := by kernel_rfl
theorem r_meth {x l f : Addr} {name : Str} {pl : Sem Bool} {Q : Value × List Value → Shared → Prop} (S : ST s₀ g L ns vs nw s) (W : Wld w g) (T : Tab s.heap x l)
    (hf : findIn (KK w) (.ref 229) name = some (some (.ref f))) (h : Q (.ref f, [.ref x]) s) (hne : (Value.str (Str.ofString "_headers") 0).isStr name = false := by decide +kernel) (ht : typeIn (KK w) (.ref f) = some (.type "function") := by kernel_rfl) :
    wpAny (model PR w) A (getMethod (.ref x) name pl) Q E s := by
  obtain ⟨dx, hs, tk, n, I⟩ := T.inst
  refine method_fn (W.at S.keep) I K_ga K_gattr hf ht ?_ h
  show (lookIn name (dictOf _ n)).map _ = _
  rw [lookIn_dict]
  have e : (Value.str (Str.ofString "_headers") tk).isStr name = false := hne
  simp [getL, e, DictEntry.refKey]
theorem r_headers {x l : Addr} {expr : Bool} {Q : Value → Shared → Prop} (S : ST s₀ g L ns vs nw s) (W : Wld w g) (T : Tab s.heap x l)
    (h : ∀ s', ST s₀ g L ns vs nw s' → Q (.ref l) s') : wpAny (model PR w) A (getAttr (.ref x) (Str.ofString "_headers") expr) Q E s := by
  obtain ⟨dx, hs, tk, n, I⟩ := T.inst
  exact get_value (W.at S.keep) I K_ga (by rfl) rfl (h _ S.tok)
theorem r_meth_search {p : Addr} {o : Obj} {pl : Sem Bool} {Q : Value × List Value → Shared → Prop} (S : ST s₀ g L ns vs nw s) (W : Wld w g) (hp : (KK w).lookup p = some o) (hc : o.cls = .type "re.Pattern") (hd : o.dict = none)
    (h : Q (.builtin "re.Pattern.search", [.ref p]) s) : wpAny (model PR w) A (getMethod (.ref p) (Str.ofString "search") pl) Q E s :=
  getMethod_builtin ⟨o, W.at S.keep _ _ hp, hc⟩ re_plain re_slot re_type (fun a e => by cases e; exact ⟨o, W.at S.keep _ _ hp, hd⟩) h
theorem convert_spec {x : Addr} {b : Heap} {v : Str} {t : Tok} {nm : Bool} {Q : Value → Shared → Prop} (W : Wld w b) (hb : ∀ a o, b.get? a = some o → s.heap.get? a = some o) (ok : Ok A 1) (hx : Clean v) (hz : v.cps.size ≤ 1000)
    (h : ∀ s', Same s s' → Keeps [] s.heap s'.heap → Q (.str v t) s') :
    wpAny (model PR w) A (call (.ref 128) [.ref x, .str v t] [(Str.ofString "name", .bool nm)]) Q E s := by
  refine wpAny_call ?_
  refine enter [(Str.ofString "self", .ref x), (Str.ofString "value", .str v t), (Str.ofString "name", .bool nm)]
    [Str.ofString "self", Str.ofString "value", Str.ofString "name", Str.ofString "regex"]
    [some (.ref x), some (.str v t), some (.bool nm), none] [] W hb (by simp) (by simp) rfl rfl ok.room (BindsTo.of_eq rfl) (locs rfl) (by decide +kernel) (by walk_at "m.hvs") ?_
  intro g L s1 hbg hsg hgs Wg S
  cases nm
  · repeat walk1
    refine r_meth_search (by assumption) Wg (by rfl) rfl rfl ?_
    repeat walk1
    refine search_value Wg (ST.keep (by assumption)) hx hz ?_
    repeat walk1
    rename_i S'
    exact h _ S'.same (S'.keeps (fun a o e n => hsg a o e n))
  · repeat walk1
    refine r_meth_search (by assumption) Wg (by rfl) rfl rfl ?_
    repeat walk1
    refine search_name Wg (ST.keep (by assumption)) hx hz ?_
    repeat walk1
    rename_i S'
    exact h _ S'.same (S'.keeps (fun a o e n => hsg a o e n))
end
abbrev low (x : Str) : Str := Txt.lower x
/-- a name that the table takes -/
structure Nm (x : Str) : Prop where
  c1 : Clean x
  c2 : Clean (low x)
  z1 : x.cps.size ≤ 100
  z2 : (low x).cps.size ≤ 1000
abbrev Ent := Addr × Str
def isP (n : Str) : Pd := fun o => ∃ t u, isT #[.str n t, .str (Str.ofString "held") u] o
abbrev prefs (es : List Ent) : Array Value := (es.map fun e => Value.ref e.1).toArray
theorem prefs_get {es : List Ent} {i : Nat} {v : Value} (h : (prefs es)[i]? = some v) : ∃ e, es[i]? = some e ∧ v = .ref e.1 := by
  rw [prefs, List.getElem?_toArray, List.getElem?_map] at h
  cases q : es[i]? with
  | none => rw [q] at h; cases h
  | some e => rw [q] at h; cases h; exact ⟨e, rfl, rfl⟩
theorem prefs_size {es : List Ent} : (prefs es).size = es.length := by simp [prefs]
theorem str_beq {x y : Str} : (x.cps.toList == y.cps.toList) = decide (x = y) := by
  by_cases h : x = y
  · subst h; simp
  · rw [decide_eq_false h]
    have : x.cps.toList ≠ y.cps.toList := fun e => h (by cases x; cases y; simp at e; rw [e])
    simpa using this
section
variable {w : World} {A : Around} {E : Value → Shared → Prop} {s₀ s : Shared} {g : Heap} {L : Addr} {ns : List Str} {vs : List (Option Value)} {nw : List (Addr × Pd)} {env : Env}
theorem r_lower {x : Str} {t : Tok} {Q : Value → Shared → Prop} (S : ST s₀ g L ns vs nw s) (hx : Nm x) (h : ∀ t s', ST s₀ g L ns vs nw s' → Q (.str (low x) t) s') : wpAny (model PR w) A (call (.builtin "str.lower") [.str x t]) Q E s :=
  SCL.lower (by have := hx.z1; show x.cps.size ≤ _; omega) fun _ => h _ _ S.tok
/-- a pair of two taken apart -/
theorem r_unpack2 {elts : List Expr} {k : Nat} {pos : Pos} {tp : Addr} {a b : Value} {Q : Unit → Shared → Prop} (hh : A.handled = none) (S : ST s₀ g L ns vs nw s) (ht : At s.heap tp (isT #[a, b]))
    (hn : (assignEach elts env).length = 2) (hstar : (assignEach elts env).findIdx? (·.1) = none)
    (h : ∀ s', ST s₀ g L ns vs nw s' → wpAny (model PR w) A (assignInOrder ((assignEach elts env).map (·.2)) [a, b]) Q E s') : wpAny (model PR w) A (assign (.Tuple elts k pos) env (.ref tp)) Q E s :=
  wpAny_assign_Tuple (items := #[a, b]) hh ht hn hstar fun h' hx => h _ (S.grow (s' := { s with heap := h' }) (fun a o e => hx a o (Nat.ne_of_lt (Heap.lt_size e)) e) ⟨rfl, rfl, rfl⟩)
theorem r_eqstr {x y : Str} {t u : Tok} {Q : Value → Shared → Prop} (h : Q (.bool (decide (x = y))) s) : wpAny (model PR w) A (compareOp .Eq (.str x t) (.str y u)) Q E s := P.eq_str (by rw [str_beq]; exact h)
theorem r_nestr {x y : Str} {t u : Tok} {Q : Value → Shared → Prop} (h : Q (.bool (decide (x ≠ y))) s) : wpAny (model PR w) A (compareOp .NotEq (.str x t) (.str y u)) Q E s :=
  P.ne_str (by rw [bne, str_beq, ← decide_not]; exact h)
end
local macro_rules | `(tactic| walk_at "call builtin:str.lower") => `(tactic| (refine r_lower (by assumption) (by assumption) ?_; intro _ _ _))
local macro_rules | `(tactic| walk_at "compareOp Eq str str") => `(tactic| with_reducible (refine r_eqstr ?_))
local macro_rules | `(tactic| walk_at "compareOp NotEq str str") => `(tactic| with_reducible (refine r_nestr ?_))
local macro_rules | `(tactic| walk_at "eval ListComp") => `(tactic| refine r_listcomp (by with_unfolding_all rfl) (by rfl) (by decide +kernel) ?_)
local macro_rules | `(tactic| walk_at "m.kind") => `(tactic| first | exact Or.inl (by kernel_rfl!) | exact Or.inr (by kernel_rfl!))
local macro_rules | `(tactic| walk_at "eval Name") => `(tactic| first
  | with_reducible (refine r_name (by assumption) (by walk_at "m.has") ?_ (by kernel_rfl!) (by kernel_rfl!) (by with_unfolding_all rfl) (by decide +kernel))
  | with_reducible (refine r_global (by assumption) (by assumption) (by walk_at "m.gv") ?_ (by kernel_rfl!) (by kernel_rfl!) (by with_unfolding_all rfl) (by with_unfolding_all rfl) (by decide +kernel))
  | with_reducible (refine r_cell (ST.new (by assumption) List.mem_cons_self) (by kernel_rfl!) ?_ (by kernel_rfl!) (by walk_at "m.kind") (by decide +kernel) (by decide +kernel))
  | with_reducible (refine r_cell (ST.new (by assumption) (List.mem_cons_of_mem _ List.mem_cons_self)) (by kernel_rfl!) ?_ (by kernel_rfl!) (by walk_at "m.kind") (by decide +kernel) (by decide +kernel))
  | with_reducible (refine r_cell (ST.new (by assumption) (List.mem_cons_of_mem _ (List.mem_cons_of_mem _ List.mem_cons_self))) (by kernel_rfl!) ?_ (by kernel_rfl!) (by walk_at "m.kind") (by decide +kernel) (by decide +kernel))
  | with_reducible (refine r_cell (ST.new (by assumption) (List.mem_cons_of_mem _ (List.mem_cons_of_mem _ (List.mem_cons_of_mem _ List.mem_cons_self)))) (by kernel_rfl!) ?_ (by kernel_rfl!) (by walk_at "m.kind") (by decide +kernel) (by decide +kernel))
  | with_reducible (refine r_cell (ST.new (by assumption) (List.mem_cons_of_mem _ (List.mem_cons_of_mem _ (List.mem_cons_of_mem _ (List.mem_cons_of_mem _ List.mem_cons_self))))) (by kernel_rfl!) ?_ (by kernel_rfl!) (by walk_at "m.kind") (by decide +kernel) (by decide +kernel))
  | with_reducible (refine r_cell (ST.old (by assumption) (by assumption)) (by kernel_rfl!) ?_ (by kernel_rfl!) (by walk_at "m.kind") (by decide +kernel) (by decide +kernel)))
local macro_rules | `(tactic| walk_at "storeName") => `(tactic| first
  | ((with_reducible (refine r_store (by assumption) (by walk_at "m.put") ?_ (by kernel_rfl!) (by kernel_rfl!) (by with_unfolding_all rfl))); intro _ _)
  | ((with_reducible (refine r_storec (by assumption) List.mem_cons_self (by kernel_rfl!) (by walk_at "m.up") ?_ (by kernel_rfl!) (by kernel_rfl!))); intro _ _)
  | ((with_reducible (refine r_storec (by assumption) (List.mem_cons_of_mem _ List.mem_cons_self) (by kernel_rfl!) (by walk_at "m.up") ?_ (by kernel_rfl!) (by kernel_rfl!))); intro _ _)
  | ((with_reducible (refine r_storec (by assumption) (List.mem_cons_of_mem _ (List.mem_cons_of_mem _ List.mem_cons_self)) (by kernel_rfl!) (by walk_at "m.up") ?_ (by kernel_rfl!) (by kernel_rfl!))); intro _ _)
  | ((with_reducible (refine r_storec (by assumption) (List.mem_cons_of_mem _ (List.mem_cons_of_mem _ (List.mem_cons_of_mem _ List.mem_cons_self))) (by kernel_rfl!) (by walk_at "m.up") ?_ (by kernel_rfl!) (by kernel_rfl!))); intro _ _)
  | ((with_reducible (refine r_storec (by assumption) (List.mem_cons_of_mem _ (List.mem_cons_of_mem _ (List.mem_cons_of_mem _ (List.mem_cons_of_mem _ List.mem_cons_self)))) (by kernel_rfl!) (by walk_at "m.up") ?_ (by kernel_rfl!) (by kernel_rfl!))); intro _ _))
local macro_rules | `(tactic| walk_at "exec Assign cons ListComp") => `(tactic| refine r_assigncomp (by with_unfolding_all rfl) (by with_unfolding_all rfl) (by rfl) (by decide +kernel) ?_)
local macro_rules | `(tactic| walk_at "eval Slice") => `(tactic| refine r_slice ?_)
local macro_rules | `(tactic| walk_at "NewSlice") => `(tactic| (refine r_newslice (by assumption) ?_; intro _ _ _))

section
variable {w : World} {A : Around} {E : Value → Shared → Prop} {s₀ s : Shared} {g : Heap} {L : Addr} {ns : List Str} {vs : List (Option Value)} {nw : List (Addr × Pd)} {env : Env}
theorem get_spec {x l : Addr} {b : Heap} {nm : Str} {es : List Ent} {t : Tok} {Q : Value → Shared → Prop} (W : Wld w b) (hb : ∀ a o, b.get? a = some o → s.heap.get? a = some o) (ok : Ok A 2)
    (T : Tab s.heap x l) (hl : At s.heap l (isLx (prefs es))) (he : ∀ e ∈ es, At s.heap e.1 (isP e.2) ∧ Nm e.2) (hn : Nm nm)
    (h : ∀ s' v, Same s s' → Keeps [] s.heap s'.heap → (if es.any (fun e => decide (low e.2 = low nm)) then ∃ u, v = .str (Str.ofString "held") u else v = .none) → Q v s') :
    wpAny (model PR w) A (call (.ref 176) [.ref x, .str nm t]) Q E s := by
  refine wpAny_call ?_
  refine enter [(Str.ofString "self", .ref x), (Str.ofString "name", .str nm t), (Str.ofString "default", .none)]
    [Str.ofString "self", Str.ofString "name", Str.ofString "default", Str.ofString "k", Str.ofString "v"]
    [some (.ref x), some (.str nm t), some .none, none, none] [] W hb (by simp) (by simp) rfl rfl ok.room (BindsTo.of_defaults (T := 169) rfl (W.at hb _ _ (by rfl)) rfl rfl rfl) (locs rfl) (by decide +kernel) (by walk_at "m.hvs") ?_
  intro g L s1 hbg hsg hgs Wg S
  have Tg : Tab g x l := T.keeps hsg (by simp)
  have hlg : At g l (isL (prefs es)) := (hl.into hsg (by simp)).weak
  have heg : ∀ e ∈ es, At g e.1 (isP e.2) ∧ Nm e.2 := fun e m => ⟨(he e m).1.into hsg (by simp), (he e m).2⟩
  walk_at "m.go"
  refine r_meth (by assumption) Wg (Tg.grow (ST.keep (by assumption))) K_convert ?_
  walk_at "m.go"
  rename_i S2
  refine convert_spec Wg S2.keep ok.deeper hn.c2 hn.z2 ?_
  intro s3 e3 k3
  have S3 := S2.call0 e3 k3
  walk_at "m.go"
  refine r_headers (by assumption) Wg (Tg.grow (ST.keep (by assumption))) ?_
  intro s4 S4
  walk_at "m.go"
  refine r_for_list (l := l) (items := prefs es) ok.hh (fun i vs nw => nw = [] ∧ (∃ t x1 x2, vs = [some (.ref x), some (.str (low nm) t), some .none, x1, x2]) ∧ ∀ e ∈ es.take i, low e.2 ≠ low nm) (fun _ _ => False) S4 (S4.old hlg) ⟨rfl, ⟨_, _, _, rfl⟩, by simp⟩ (fun _ _ _ _ _ S' => S'.old hlg) ?_ ?_
  · rintro I i v vs nw P0 s5 hi hv ⟨rfl, ⟨t', x1, x2, rfl⟩, hno⟩ S5
    obtain ⟨e, hei, rfl⟩ := prefs_get hv
    obtain ⟨⟨oe, hoe, te, ue, hte⟩, hke⟩ := heg e (List.mem_of_getElem? hei)
    refine r_unpack2 ok.hh S5 (S5.old ⟨oe, hoe, hte⟩) rfl rfl ?_
    intro s6 S6
    walk_at "m.go"
    · rename_i hq
      refine h _ _ (ST.same (by assumption)) (ST.keeps (by assumption) hsg) ?_
      rw [if_pos]
      · exact ⟨_, rfl⟩
      · exact List.any_eq_true.mpr ⟨e, List.mem_of_getElem? hei, decide_eq_true hq⟩
    · rename_i hq
      walk_at "m.go"
      refine ⟨_, _, by assumption, rfl, ⟨_, _, _, rfl⟩, fun e' m => ?_⟩
      rw [List.take_add_one, hei] at m
      rcases List.mem_append.mp m with m | m
      · exact hno e' m
      · rw [List.mem_singleton.mp m]; exact hq
  · rintro vs nw s5 (⟨rfl, ⟨t', x1, x2, rfl⟩, hno⟩ | hf) S5
    · walk_at "m.go"
      refine h _ _ (ST.same (by assumption)) (ST.keeps (by assumption) hsg) ?_
      rw [if_neg]
      rw [prefs_size, List.take_length] at hno
      intro q
      obtain ⟨e, m, q⟩ := List.any_eq_true.mp q
      exact hno e m (of_decide_eq_true q)
    · exact hf.elim
theorem contains_spec {x l : Addr} {b : Heap} {nm : Str} {es : List Ent} {t : Tok} {Q : Value → Shared → Prop} (W : Wld w b) (hb : ∀ a o, b.get? a = some o → s.heap.get? a = some o) (ok : Ok A 3)
    (T : Tab s.heap x l) (hl : At s.heap l (isLx (prefs es))) (he : ∀ e ∈ es, At s.heap e.1 (isP e.2) ∧ Nm e.2) (hn : Nm nm)
    (h : ∀ s', Same s s' → Keeps [] s.heap s'.heap → Q (.bool (es.any (fun e => decide (low e.2 = low nm)))) s') :
    wpAny (model PR w) A (call (.ref 161) [.ref x, .str nm t]) Q E s := by
  refine wpAny_call ?_
  refine enter [(Str.ofString "self", .ref x), (Str.ofString "name", .str nm t)] [Str.ofString "self", Str.ofString "name"]
    [some (.ref x), some (.str nm t)] [] W hb (by simp) (by simp) rfl rfl ok.room (BindsTo.of_eq rfl) (locs rfl) (by decide +kernel) (by walk_at "m.hvs") ?_
  intro g L s1 hbg hsg hgs Wg S
  have Tg : Tab g x l := T.keeps hsg (by simp)
  have hlg : At g l (isLx (prefs es)) := (hl.into hsg (by simp))
  have heg : ∀ e ∈ es, At g e.1 (isP e.2) ∧ Nm e.2 := fun e m => ⟨(he e m).1.into hsg (by simp), (he e m).2⟩
  walk_at "m.go"
  refine r_meth (by assumption) Wg (Tg.grow (ST.keep (by assumption))) K_get ?_
  walk_at "m.go"
  refine get_spec Wg S.keep ok.deeper (Tg.grow S.keep) (S.old hlg) (fun e m => ⟨S.old (heg e m).1, (heg e m).2⟩) hn ?_
  intro s2 v e2 k2 hv
  have S2 := S.call0 e2 k2
  walk_at "m.go"
  cases ha : es.any (fun e => decide (low e.2 = low nm)) with
  | true =>
    rw [ha] at hv h
    obtain ⟨u, rfl⟩ := hv
    walk_at "m.go"
    exact h _ S2.same (S2.keeps hsg)
  | false =>
    rw [ha] at hv h
    simp only [Bool.false_eq_true, if_false] at hv
    subst hv
    walk_at "m.go"
    exact h _ S2.same (S2.keeps hsg)
theorem tlen_spec {x l : Addr} {b : Heap} {es : List Ent} {Q : Value → Shared → Prop} (W : Wld w b) (hb : ∀ a o, b.get? a = some o → s.heap.get? a = some o) (ok : Ok A 1)
    (T : Tab s.heap x l) (hl : At s.heap l (isLx (prefs es))) (hz : es.length < 1000) (h : ∀ s' t, Same s s' → Keeps [] s.heap s'.heap → Q (.int es.length t) s') :
    wpAny (model PR w) A (call (.ref 135) [.ref x]) Q E s := by
  refine wpAny_call ?_
  refine enter [(Str.ofString "self", .ref x)] [Str.ofString "self"]
    [some (.ref x)] [] W hb (by simp) (by simp) rfl rfl ok.room (BindsTo.of_eq rfl) (locs rfl) (by decide +kernel) (by walk_at "m.hvs") ?_
  intro g L s1 hbg hsg hgs Wg S
  have Tg : Tab g x l := T.keeps hsg (by simp)
  have hlg : At g l (isLx (prefs es)) := (hl.into hsg (by simp))
  walk_at "m.go"
  refine r_headers (by assumption) Wg (Tg.grow (ST.keep (by assumption))) ?_
  intro s4 S4
  walk_at "m.go"
  refine r_lenx S4 (S4.old hlg) (by rw [prefs_size]; omega) ?_
  intro t s5 S5
  rw [prefs_size]
  walk_at "m.go"
  exact h _ _ S5.same (S5.keeps hsg)
end
/-- strs, whatever their tokens -/
def Strs (vs : List Value) (ss : List Str) : Prop := vs.length = ss.length ∧ ∀ (i : Nat) (s : Str), ss[i]? = some s → ∃ t, vs[i]? = some (Value.str s t)
theorem Strs.nil : Strs [] [] := ⟨rfl, fun _ _ h => by simp at h⟩
theorem Strs.snoc {vs : List Value} {ss : List Str} {s : Str} {t : Tok} (h : Strs vs ss) : Strs (vs ++ [Value.str s t]) (ss ++ [s]) := by
  refine ⟨by simp [h.1], fun i x hx => ?_⟩
  by_cases hi : i < ss.length
  · have hl := h.1
    rw [List.getElem?_append_left hi] at hx
    obtain ⟨t', e⟩ := h.2 i x hx
    exact ⟨t', by rw [List.getElem?_append_left (by omega)]; exact e⟩
  · rw [List.getElem?_append_right (by omega)] at hx
    have hl := h.1
    rw [List.getElem?_append_right (by omega), h.1]
    by_cases hj : i - ss.length = 0
    · rw [hj] at hx ⊢; simp at hx ⊢; exact hx
    · obtain ⟨j, ej⟩ : ∃ j, i - ss.length = j + 1 := ⟨i - ss.length - 1, by omega⟩
      rw [ej] at hx; simp at hx
section
variable {w : World} {A : Around} {E : Value → Shared → Prop} {s₀ s : Shared} {g : Heap} {L : Addr} {ns : List Str} {vs : List (Option Value)} {nw : List (Addr × Pd)} {env : Env}
theorem keys_spec {x l : Addr} {b : Heap} {es : List Ent} {Q : Value → Shared → Prop} (W : Wld w b) (hb : ∀ a o, b.get? a = some o → s.heap.get? a = some o) (ok : Ok A 1)
    (T : Tab s.heap x l) (hl : At s.heap l (isLx (prefs es))) (he : ∀ e ∈ es, At s.heap e.1 (isP e.2)) (hz : es.length < 1000)
    (h : ∀ s' r vs, Same s s' → Keeps [] s.heap s'.heap → s.heap.get? r = none → At s'.heap r (isLx vs.toArray) → Strs vs (es.map (·.2)) → Q (.ref r) s') :
    wpAny (model PR w) A (call (.ref 181) [.ref x]) Q E s := by
  refine wpAny_call ?_
  refine enter [(Str.ofString "self", .ref x)] [Str.ofString "self"]
    [some (.ref x)] [] W hb (by simp) (by simp) rfl rfl ok.room (BindsTo.of_eq rfl) (locs rfl) (by decide +kernel) (by walk_at "m.hvs") ?_
  intro g L s1 hbg hsg hgs Wg S
  have Tg : Tab g x l := T.keeps hsg (by simp)
  have hlg : At g l (isLx (prefs es)) := (hl.into hsg (by simp))
  have heg : ∀ e ∈ es, At g e.1 (isP e.2) := fun e m => (he e m).into hsg (by simp)
  walk_at "m.go"
  refine r_headers (by assumption) Wg (Tg.grow (ST.keep (by assumption))) ?_
  intro s4 S4
  walk_at "m.go"
  have hl4 : At s4.heap l (isL (prefs es)) := (S4.old hlg).weak
  refine compAt (starts_list ok.hh hl4) (fun i ys => Strs ys ((es.take i).map (·.2))) [Str.ofString "k", Str.ofString "v"] [none, none] S4 (fun s' k => let ⟨o, e, p⟩ := hl4; ⟨o, k _ _ e, p⟩) ?_ ?_ Strs.nil (by rw [prefs_size]; omega) (by decide +kernel) (by intro x v q; cases q with | tail q => cases q with | tail q => cases q) (by decide +kernel) rfl
  · rintro C I acc i v ys P0 s5 hi hv K5 S5
    obtain ⟨e, hei, rfl⟩ := prefs_get hv
    obtain ⟨oe, hoe, te, ue, hte⟩ := heg e (List.mem_of_getElem? hei)
    refine r_unpack2 ok.hh S5 (S5.old ⟨oe, S4.keep _ _ hoe, hte⟩) rfl rfl ?_
    intro s6 S6
    walk_at "m.go"
    refine ⟨⟨_, by assumption⟩, ?_⟩
    rw [List.take_add_one, hei]
    simp only [Option.toList_some, List.map_append, List.map_cons, List.map_nil]
    exact K5.snoc
  · intro C acc ys s5 K5 S5
    refine comp_done S5 ?_
    intro s6 S6
    walk_at "m.go"
    rw [prefs_size, List.take_length] at K5
    have hr : s.heap.get? acc = none := by
      cases q : s.heap.get? acc with
      | none => rfl
      | some o => have := hsg _ _ q (by simp); rw [(S6.led _ (.head _)).2.1] at this; cases this
    exact h _ _ _ S6.same (S6.keeps hsg) hr (S6.new (.head _)) K5
end
section
variable {w : World} {A : Around} {E : Value → Shared → Prop} {s₀ s : Shared} {g : Heap} {L : Addr} {ns : List Str} {vs : List (Option Value)} {nw nw' : List (Addr × Pd)} {env : Env}
theorem r_titem {value slice : Expr} {t : Addr} {items : Array Value} {k : Int} {u : Tok} {v : Value} {Q : Value → Shared → Prop} (ht : At s.heap t (isT items)) (h0 : 0 ≤ k) (hhi : k < 2 ^ 62) (hx : items[k.toNat]? = some v) (h : Q v s)
    (hs : subscripted slice false (.ref t) (.int k u) = operate [.ref t, .int k u] (getItem (.ref t) (.int k u)) := by with_unfolding_all rfl) :
    wpAny (model PR w) A (subscriptTail value slice (.ref t) (.int k u)) Q E s := by
  obtain ⟨o, ho, hc, n, hd⟩ := ht
  have hlt : k.toNat < items.size := (Array.getElem?_eq_some_iff.mp hx).1
  refine tail_any ⟨o, ho, hc⟩ slot_tuple_getitem.lookup (getItem_tuple (j := k.toNat) ⟨o, ho, hc, n, hd⟩ (by omega) (by omega) ?_ hx h) hs
  unfold seqIndex?
  simp only [show ¬ k < 0 by omega, if_false]
  rw [if_pos (by simp only [Bool.and_eq_true, decide_eq_true_eq]; omega)]
theorem isP_isLx {k : Str} {items : Array Value} (o : Obj) (x : isP k o) (y : isLx items o) : False := by
  obtain ⟨t, u, hc, _⟩ := x
  obtain ⟨n, rfl⟩ := y
  simp at hc
set_option maxHeartbeats 400000 in
theorem delitem_spec {x l : Addr} {b : Heap} {nm : Str} {es : List Ent} {t : Tok} {Q : Value → Shared → Prop} (W : Wld w b) (hb : ∀ a o, b.get? a = some o → s.heap.get? a = some o) (hbl : b.get? l = none) (ok : Ok A 2)
    (T : Tab s.heap x l) (hl : At s.heap l (isLx (prefs es))) (he : ∀ e ∈ es, At s.heap e.1 (isP e.2) ∧ Nm e.2) (hn : Nm nm) (hz : es.length < 1000)
    (h : ∀ s', Same s s' → Keeps [l] s.heap s'.heap → At s'.heap l (isLx (prefs (es.filter fun e => decide (low e.2 ≠ low nm)))) → Q .none s') :
    wpAny (model PR w) A (call (.ref 147) [.ref x, .str nm t]) Q E s := by
  refine wpAny_call ?_
  refine enterC [(Str.ofString "self", .ref x), (Str.ofString "name", .str nm t)] [Str.ofString "self"] [some (.ref x)] (fun L => [(Str.ofString "name", L + 1)]) (fun L => [(L + 1, isC (some (.str nm t)))]) [(l, isLx (prefs es))]
    W hb (enter1 hl hbl) (by simp) rfl rfl ok.room rfl ?_ (by decide +kernel) ?_ ?_ ?_ ?_ ?_
  · exact kindsX rfl
  · intro L x v hx
    cases hx with
    | head => rfl
    | tail hx => cases hx
  · exact fun L => rfl
  · exact fun L => rfl
  · intro L; simp
  intro g L s1 hbg hsg hgs Wg S
  simp only [List.cons_append, List.nil_append] at S
  have Tg : Tab g x l := T.keeps hsg (by simpa using ⟨_, hl⟩)
  have heg : ∀ e ∈ es, At g e.1 (isP e.2) ∧ Nm e.2 := fun e m => ⟨(he e m).1.into hsg (by simpa using ne_at (he e m).1 hl isP_isLx), (he e m).2⟩
  walk_at "m.go"
  refine r_meth (by assumption) Wg (Tg.grow (ST.keep (by assumption))) K_convert ?_
  walk_at "m.go"
  rename_i S2
  refine convert_spec Wg S2.keep ok.deeper hn.c2 hn.z2 ?_
  intro s3 e3 k3
  have S3 := S2.call0 e3 k3
  walk_at "m.go"
  refine r_headers (by assumption) Wg (Tg.grow (ST.keep (by assumption))) ?_
  intro s4 S4
  walk_at "m.go"
  have hl4 : At s4.heap l (isL (prefs es)) := (S4.new (.tail _ (.head _))).weak
  have hc4 := S4.new (.head _)
  refine compAt (starts_list ok.hh hl4) (fun i ys => ys = ((es.take i).filter fun e => decide (low e.2 ≠ low nm)).map fun e => Value.ref e.1) [Str.ofString "kv"] [none] S4 (fun s' k => let ⟨o, e, p⟩ := hl4; ⟨o, k _ _ e, p⟩) ?_ ?_ (by simp) (by rw [prefs_size]; omega) (by decide +kernel) (by intro x v q; cases q with | tail q => cases q) (by decide +kernel) rfl
  · rintro C I acc i v ys P0 s5 hi hv K5 S5
    obtain ⟨e, hei, rfl⟩ := prefs_get hv
    obtain ⟨⟨oe, hoe, te, ue, hte⟩, hke⟩ := heg e (List.mem_of_getElem? hei)
    have hte' : At s4.heap e.1 (isT #[.str e.2 te, .str (Str.ofString "held") ue]) := ⟨oe, S4.keep _ _ hoe, hte⟩
    walk_at "m.go"
    refine r_titem (v := .str e.2 te) (ST.old (by assumption) hte') (by omega) (by omega) rfl ?_
    walk_at "m.go"
    · rename_i hq
      refine ⟨⟨_, by assumption⟩, ?_⟩
      rw [K5, List.take_add_one, hei]
      simp [hq]
    · rename_i hq
      refine ⟨⟨_, by assumption⟩, ?_⟩
      rw [K5, List.take_add_one, hei]
      simp at hq
      simp [hq]
  · intro C acc ys s5 K5 S5
    refine comp_done S5 ?_
    intro s6 S6
    walk_at "m.go"
    refine r_headers (by assumption) Wg (Tg.grow (ST.keep (by assumption))) ?_
    intro s7 S7
    walk_at "m.go"
    rename_i sl s8 S8
    have hne : l ≠ acc := fun e => by have := S7.nd; simp [e] at this
    have hsz : ys.length ≤ es.length := by
      rw [K5, List.length_map]
      exact Nat.le_trans (List.length_filter_le _ _) (by simp)
    refine r_setslice S8 (S8.new (by walk_at "m.mem")) (S8.new (.tail _ (.head _))).weak (S8.new (.head _)) hne (by rw [prefs_size]; omega) (by simp only [List.size_toArray]; omega) (by walk_at "m.up") ?_
    intro s9 S9
    walk_at "m.go"
    rw [prefs_size, List.take_length] at K5
    refine h _ S9.same (S9.keeps hsg) ?_
    have := S9.new (.tail _ (.tail _ (.tail _ (.head _))))
    rw [K5] at this
    exact this
end
local macro_rules | `(tactic| walk_at "newTuple") => `(tactic| (refine r_newtuple (by assumption) ?_ (by size_fits); intro _ _ _ _))
local macro_rules | `(tactic| walk_at "newList") => `(tactic| (refine r_newlist (by assumption) ?_ (by size_fits); intro _ _ _))
theorem Ok.mono1 {A : Around} {d : Nat} (o : Ok A (d + 1)) : Ok A d := o.mono (by omega)
theorem clean_held : Clean (Str.ofString "held") := by
  have : ∀ i, i < (Str.ofString "held").cps.size → 32 ≤ (Str.ofString "held").cps.getD i 0 ∧ (Str.ofString "held").cps.getD i 0 ≤ 126 := by decide +kernel
  exact this
section
variable {w : World} {A : Around} {E : Value → Shared → Prop} {s₀ s : Shared} {g : Heap} {L : Addr} {ns : List Str} {vs : List (Option Value)} {nw nw' : List (Addr × Pd)} {env : Env}
theorem K_noSeq : noSeq (KK w) 229 = true := by kernel_rfl
theorem r_delT {x l : Addr} {v : Value} {Q : Unit → Shared → Prop} (S : ST s₀ g L ns vs nw s) (W : Wld w g) (T : Tab s.heap x l)
    (h : wpAny (model PR w) A (call (.ref 147) [.ref x, v]) (fun _ s' => Q () s') E s) : wpAny (model PR w) A (delItem (.ref x) v) Q E s := by
  obtain ⟨dx, hs, tk, n, I⟩ := T.inst
  have X := W.at S.keep
  unfold delItem sequenceKey
  refine wpAny_holding (wpAny_bind (wpAny_bind (I.type.here ?_)))
  refine wpAny_bind ((anyM_none X K_noSeq).here ?_)
  rw [if_pos (show (!false) = true from rfl)]
  exact wpAny_pure (wpAny_bind (special_fn X I K_delitem (by kernel_rfl) (wpAny_mono h (fun _ _ z => wpAny_pure z) fun _ _ z => z)))
theorem r_setT {x l : Addr} {v u : Value} {Q : Unit → Shared → Prop} (S : ST s₀ g L ns vs nw s) (W : Wld w g) (T : Tab s.heap x l)
    (h : wpAny (model PR w) A (call (.ref 142) [.ref x, v, u]) (fun _ s' => Q () s') E s) : wpAny (model PR w) A (setItem (.ref x) v u) Q E s := by
  obtain ⟨dx, hs, tk, n, I⟩ := T.inst
  have X := W.at S.keep
  unfold setItem sequenceKey
  refine wpAny_holding (wpAny_bind (wpAny_bind (I.type.here ?_)))
  refine wpAny_bind ((anyM_none X K_noSeq).here ?_)
  rw [if_pos (show (!false) = true from rfl)]
  exact wpAny_pure (wpAny_bind (special_fn X I K_setitem (by kernel_rfl) (wpAny_mono h (fun _ _ z => wpAny_pure z) fun _ _ z => z)))
theorem r_inT {x l : Addr} {v : Value} {Q : Value → Shared → Prop} (S : ST s₀ g L ns vs nw s) (W : Wld w g) (T : Tab s.heap x l)
    (h : wpAny (model PR w) A (call (.ref 161) [.ref x, v]) (fun r s' => ∃ b, r = .bool b ∧ Q (.bool b) s') E s) : wpAny (model PR w) A (compareOp .In v (.ref x)) Q E s := by
  obtain ⟨dx, hs, tk, n, I⟩ := T.inst
  obtain ⟨m, F⟩ := S.fr
  refine in_K F W.X I K_contains (by kernel_rfl) (wpAny_mono h (fun r s' z => ?_) fun _ _ z => z)
  obtain ⟨b, rfl, z⟩ := z
  exact wpAny_pure z
theorem r_notinT {x l : Addr} {v : Value} {Q : Value → Shared → Prop} (S : ST s₀ g L ns vs nw s) (W : Wld w g) (T : Tab s.heap x l)
    (h : wpAny (model PR w) A (call (.ref 161) [.ref x, v]) (fun r s' => ∃ b, r = .bool b ∧ Q (.bool (!b)) s') E s) : wpAny (model PR w) A (compareOp .NotIn v (.ref x)) Q E s := by
  obtain ⟨dx, hs, tk, n, I⟩ := T.inst
  obtain ⟨m, F⟩ := S.fr
  refine notIn_K F W.X I K_contains (by kernel_rfl) (wpAny_mono h (fun r s' z => ?_) fun _ _ z => z)
  obtain ⟨b, rfl, z⟩ := z
  exact wpAny_pure z
theorem r_lenT {x l : Addr} {Q : Value → Shared → Prop} (S : ST s₀ g L ns vs nw s) (W : Wld w g) (T : Tab s.heap x l)
    (h : wpAny (model PR w) A.in1 (call (.ref 135) [.ref x]) (PySem.W.LenBack Q) E s) : wpAny (model PR w) A (call (.builtin "len") [.ref x]) Q E s := by
  obtain ⟨dx, hs, tk, n, I⟩ := T.inst
  obtain ⟨m, F⟩ := S.fr
  exact len_K F W.X I K_len (by kernel_rfl) h
theorem setitem_spec {x l : Addr} {b : Heap} {nm : Str} {es : List Ent} {t u : Tok} {Q : Value → Shared → Prop} (W : Wld w b) (hb : ∀ a o, b.get? a = some o → s.heap.get? a = some o) (hbl : b.get? l = none) (ok : Ok A 3)
    (T : Tab s.heap x l) (hl : At s.heap l (isLx (prefs es))) (he : ∀ e ∈ es, At s.heap e.1 (isP e.2) ∧ Nm e.2) (hn : Nm nm) (hz : es.length < 999)
    (h : ∀ s' p, Same s s' → Keeps [l] s.heap s'.heap → At s'.heap l (isLx (prefs ((es.filter fun e => decide (low e.2 ≠ low nm)) ++ [(p, nm)]))) → At s'.heap p (isP nm) → s.heap.get? p = none → b.get? p = none → Q .none s') :
    wpAny (model PR w) A (call (.ref 142) [.ref x, .str nm t, .str (Str.ofString "held") u]) Q E s := by
  refine wpAny_call ?_
  refine enter [(Str.ofString "self", .ref x), (Str.ofString "name", .str nm t), (Str.ofString "val", .str (Str.ofString "held") u)] [Str.ofString "self", Str.ofString "name", Str.ofString "val"]
    [some (.ref x), some (.str nm t), some (.str (Str.ofString "held") u)] [(l, isLx (prefs es))] W hb (enter1 hl hbl) (by simp) rfl rfl ok.room (BindsTo.of_eq rfl) (locs rfl) (by decide +kernel) (by walk_at "m.hvs") ?_
  intro g L s1 hbg hsg hgs Wg S
  have Tg : Tab g x l := T.keeps hsg (by simpa using ⟨_, hl⟩)
  have heg : ∀ e ∈ es, At g e.1 (isP e.2) ∧ Nm e.2 := fun e m => ⟨(he e m).1.into hsg (by simpa using ne_at (he e m).1 hl isP_isLx), (he e m).2⟩
  walk_at "m.go"
  refine r_delT (by assumption) Wg (Tg.grow (ST.keep (by assumption))) ?_
  refine delitem_spec Wg S.keep (S.led _ (.head _)).2.1 ok.deeper (Tg.grow S.keep) (S.new (.head _)) (fun e m => ⟨S.old (heg e m).1, (heg e m).2⟩) hn (by omega) ?_
  intro s2 e2 k2 hl2
  have S2 := S.call1 .head e2 k2 hl2
  walk_at "m.go"
  refine r_headers (by assumption) Wg (Tg.grow (ST.keep (by assumption))) ?_
  intro s4 S4
  walk_at "m.go"
  refine r_meth (by assumption) Wg (Tg.grow (ST.keep (by assumption))) K_convert ?_
  walk_at "m.go"
  refine convert_spec Wg S4.keep ok.deeper.mono1 hn.c1 (by have := hn.z1; omega) ?_
  intro s5 e5 k5
  have S5 := S4.call0 e5 k5
  walk_at "m.go"
  refine r_meth (by assumption) Wg (Tg.grow (ST.keep (by assumption))) K_convert ?_
  walk_at "m.go"
  refine convert_spec Wg S5.keep ok.deeper.mono1 clean_held (by decide +kernel) ?_
  intro s6 e6 k6
  have S6 := S5.call0 e6 k6
  walk_at "m.go"
  rename_i p s7 S7 hp
  refine r_append S7 (S7.new (.tail _ (.head _))) ?_ (by walk_at "m.up") ?_
  · rw [prefs_size, sizeLine_eq]; have := List.length_filter_le (fun e : Ent => decide (low e.2 ≠ low nm)) es; omega
  intro s8 S8
  walk_at "m.go"
  have hps : s.heap.get? p = none := by
    cases q : s.heap.get? p with
    | none => rfl
    | some o =>
      by_cases hpl : p = l
      · obtain ⟨o', e', _⟩ := S6.new (.head _); rw [hpl, e'] at hp; cases hp
      · have := S6.keeps hsg p o q (by simpa using hpl); rw [this] at hp; cases hp
  refine h _ p S8.same (S8.keeps hsg) ?_ ((S8.new (.head _)).imp fun o ho => ⟨_, _, ho⟩) hps ?_
  · have := S8.new (.tail _ (.head _))
    rw [show prefs ((es.filter fun e => decide (low e.2 ≠ low nm)) ++ [(p, nm)]) = (prefs (es.filter fun e => decide (low e.2 ≠ low nm))).push (.ref p) by simp [prefs]]
    exact this
  · cases q : b.get? p with
    | none => rfl
    | some o => rw [hb _ _ q] at hps; cases hps
end
theorem ST.shut {s₀ s s' : Shared} {g : Heap} {L : Addr} {ns : List Str} {vs : List (Option Value)} {nw nw' : List (Addr × Pd)} (S : ST s₀ g L ns vs nw s) {m : Str → Option Value} {os : List (Addr × Obj)} (F : Fr g L s'.heap m) (N : News g L s'.heap os)
    (ha : nw'.map (·.1) = nw.map (·.1)) (hp : ∀ p ∈ nw', ∃ o, (p.1, o) ∈ os ∧ p.2 o) (hr : ∀ x v, Has ns vs x v → m x = some v) (e : Same s s') : ST s₀ g L ns vs nw' s' :=
  ⟨⟨m, F.ns, hr⟩, S.nsd, F.keep, S.off, S.above, fun p h => let ⟨o, a, b⟩ := hp p h; ⟨⟨o, (N _ a).1, b⟩, (N _ a).2.2, (N _ a).2.1⟩, ha ▸ S.nd, S.same.trans e⟩
theorem ST.fresh' {s₀ s s' : Shared} {g : Heap} {L : Addr} {ns : List Str} {vs : List (Option Value)} {nw nw' : List (Addr × Pd)} (S : ST s₀ g L ns vs nw s) {a : Addr} {P : Pd} (h : At s'.heap a P) (f : s.heap.get? a = none) (S' : ST s₀ g L ns vs nw' s') (e : nw'.map (·.1) = nw.map (·.1) := by rfl) : ST s₀ g L ns vs ((a, P) :: nw') s' := by
  refine S'.add h ?_ (fun e => ?_) fun q => ?_
  · cases q : g.get? a with
    | none => rfl
    | some o => rw [S.keep _ _ q] at f; cases f
  · obtain ⟨m, ⟨oL, es, ep, hL, _⟩, _⟩ := S.loc
    rw [e, hL] at f; cases f
  · rw [e] at q
    obtain ⟨p, hp, rfl⟩ := List.mem_map.mp q
    obtain ⟨o, ho, _⟩ := (S.led p hp).1
    rw [ho] at f; cases f
section
variable {w : World} {A : Around} {E : Value → Shared → Prop} {s₀ s : Shared} {g : Heap} {L : Addr} {ns : List Str} {vs : List (Option Value)} {nw nw' : List (Addr × Pd)} {env : Env}
def isED : Pd := fun o => o = dictOf [] 0
theorem r_sethd {x dx l : Addr} {Q : Unit → Shared → Prop} (W : Wld w g) (S : ST s₀ g L ns vs [(l, isLx #[]), (dx, isED)] s) (hx : At g x (isInst dx))
    (h : ∀ s', ST s₀ g L ns vs [(l, isLx #[]), (dx, isHD l)] s' → Q () s') : wpAny (model PR w) A (setAttr (.ref x) (Str.ofString "_headers") (.ref l)) Q E s := by
  obtain ⟨m, hm, hr⟩ := S.loc
  obtain ⟨⟨o, e1, hn⟩, a1, a2⟩ := S.led _ (.head _)
  obtain ⟨⟨o', e2, hd⟩, b1, b2⟩ := S.led _ (.tail _ (.head _))
  dsimp only [isED] at hd
  subst hd
  have F : Fr g L s.heap m := ⟨hm, S.keep, S.above⟩
  have N : News g L s.heap [(l, o), (dx, dictOf [] 0)] := by
    intro p hp
    simp only [List.mem_cons, List.not_mem_nil, or_false] at hp
    rcases hp with rfl | rfl
    · exact ⟨e1, a2, a1⟩
    · exact ⟨e2, b2, b1⟩
  obtain ⟨ox, ex, rfl⟩ := S.old hx
  have nd := S.nd
  simp at nd
  refine set_dict (es' := [⟨_, .str (Str.ofString "_headers") (s.toks + 1), .ref l⟩]) (n' := 1) F W.X N ⟨ex, rfl, rfl, e2⟩ rfl (by kernel_rfl) (by kernel_rfl) (by kernel_rfl) (by kernel_rfl) rfl rfl (.tail nd (.head (by simp))) (by simp) fun h' F' N' => h _ (S.shut F' N' rfl ?_ hr ⟨rfl, rfl, rfl⟩)
  intro p hp
  simp only [List.mem_cons, List.not_mem_nil, or_false] at hp
  rcases hp with rfl | rfl
  · exact ⟨o, .head _, hn⟩
  · exact ⟨_, .tail _ (.head _), _, _, _, rfl⟩
theorem init_spec {x dx : Addr} {b : Heap} {R : Result → Shared → Prop} (W : Wld w b) (hb : ∀ a o, b.get? a = some o → s.heap.get? a = some o) (ok : Ok A 1) (hx : At s.heap x (isInst dx)) (hd : At s.heap dx isED) (hdb : b.get? dx = none)
    (h : ∀ s' l, Same s s' → Keeps [dx] s.heap s'.heap → At s'.heap l (isLx #[]) → At s'.heap dx (isHD l) → s.heap.get? l = none → R (.ok (.ret .none)) s') :
    codeAny (model PR w) A (.call (.ref 121) ⟨[.ref x], []⟩) R s := by
  refine enter [(Str.ofString "self", .ref x), (Str.ofString "headers", .none)] [Str.ofString "self", Str.ofString "headers", Str.ofString "k", Str.ofString "v"]
    [some (.ref x), some .none, none, none] [(dx, isED)] W hb (enter1 hd hdb) (by simp) rfl rfl ok.room (BindsTo.of_defaults (T := 114) rfl (W.at hb _ _ (by rfl)) rfl rfl rfl) (locs rfl) (by decide +kernel) (by walk_at "m.hvs") ?_
  intro g L s1 hbg hsg hgs Wg S
  have hxg : At g x (isInst dx) := hx.into hsg (by
    simp only [List.map_cons, List.map_nil, List.mem_singleton]
    exact ne_at hx hd fun o p q => by rw [isInst] at p; rw [isED, p] at q; simp at q)
  walk_at "m.go"
  rename_i l s1 S1 s2 S2
  refine call_type_of (Tx := "list") (by obtain ⟨o, e, n, rfl⟩ := S2.new (.head _); exact ⟨_, e, rfl⟩) (by decide +kernel) ?_
  walk_at "m.go"
  refine plainObj_wpAny_Assign_Attribute ?_ (by with_unfolding_all rfl)
  walk_at "m.go"
  refine r_sethd Wg (by assumption) hxg ?_
  intro s3 S3
  walk_at "m.go"
  refine wpAny_For ?_ (by intro _; rfl)
  walk_at "m.go"
  have S4 := S3
  refine r_for_list (l := l) (items := #[]) ok.hh (fun i vs nw => nw = [(l, isLx #[]), (dx, isHD l)]) (fun _ _ => False) S4 (S4.new (.head _)).weak rfl (fun i vs nw s j S' => by subst j; exact (S'.new (.head _)).weak) (fun I i v vs nw P0 s hi _ _ _ => absurd hi (by simp)) ?_
  rintro vs nw s5 (rfl | hf) S5
  · walk_at "m.go"
    have hl : s.heap.get? l = none := by
      cases q : s.heap.get? l with
      | none => rfl
      | some o =>
        have nd := S5.nd
        simp at nd
        have := hsg l o q (by simpa using nd)
        rw [(S5.led _ (.head _)).2.1] at this; cases this
    exact h _ l S5.same (S5.keeps hsg) (S5.new (.head _)) (S5.new (.tail _ (.head _))) hl
  · exact hf.elim
theorem r_Headers {Q : Value → Shared → Prop} (W : Wld w g) (S : ST s₀ g L ns vs nw s) (ok : Ok A 2)
    (h : ∀ x dx l s', ST s₀ g L ns vs ((l, isLx (prefs [])) :: (x, isInst dx) :: (dx, isHD l) :: nw) s' → Q (.ref x) s') : wpAny (model PR w) A (call (.ref 229) []) Q E s := by
  refine wpAny_call ?_
  have X := W.at S.keep
  obtain ⟨hh, gg, d, t, os⟩ := s
  refine make_core (makes_of X (by kernel_rfl)) (looks_findIn X K_init) (fun self => bind_fn X self (by kernel_rfl)) (.inl rfl) ?_
  have S1 : ST s₀ g L ns vs ((hh.objs.size, isED) :: nw) ⟨hh.push emptyDict, gg, d, t, os⟩ := S.push (o := emptyDict) rfl
  have S2 := S1.push (o := instObj 229 hh.objs.size) (P := isInst hh.objs.size) rfl
  dsimp only at S2
  rw [Heap.size_push] at S2
  have nd := S2.nd
  simp only [List.map_cons, List.nodup_cons, List.mem_cons, not_or] at nd
  refine init_spec W S2.keep ⟨ok.hh, ?_, ?_⟩ (S2.new (.head _)) (S2.new (.tail _ (.head _))) (S2.led _ (.tail _ (.head _))).2.1 ?_
  · have := ok.dep
    have e : (Code.builtin "type.__call__" ⟨[.ref 229], []⟩).weight ≤ 1 := by decide +kernel
    show A.depth + (Code.builtin "type.__call__" ⟨[.ref 229], []⟩).weight + 1 < 900; omega
  · have := ok.un
    have e : (Code.builtin "type.__call__" ⟨[.ref 229], []⟩).cUnits ≤ 20 := by decide +kernel
    show A.units + (Code.builtin "type.__call__" ⟨[.ref 229], []⟩).cUnits + 20 * 1 < 1000; omega
  intro s3 l e3 k3 h1 h2 h3
  refine ⟨rfl, ?_⟩
  have S3 : ST s₀ g L ns vs ((hh.objs.size + 1, isInst hh.objs.size) :: (hh.objs.size, isHD l) :: nw) s3 := S2.call1 (.tail .head) e3 k3 h2
  exact h _ _ _ _ (S2.fresh' h1 h3 S3)
end
/-- the table of the laws: list, object, its dict, its pairs -/
abbrev tled (l x dx : Addr) (es : List Ent) : List (Addr × Pd) := (l, isLx (prefs es)) :: (x, isInst dx) :: (dx, isHD l) :: es.map fun e => (e.1, isP e.2)
theorem tled_tab {s₀ s : Shared} {g : Heap} {L : Addr} {ns : List Str} {vs : List (Option Value)} {nw : List (Addr × Pd)} {l x dx : Addr} {es : List Ent} (S : ST s₀ g L ns vs nw s) (h : ∀ p ∈ tled l x dx es, p ∈ nw) :
    Tab s.heap x l ∧ At s.heap l (isLx (prefs es)) ∧ (∀ e ∈ es, At s.heap e.1 (isP e.2)) :=
  ⟨⟨dx, S.new (h _ (.tail _ (.head _))), S.new (h _ (.tail _ (.tail _ (.head _))))⟩, S.new (h _ (.head _)), fun e m => S.new (h _ (.tail _ (.tail _ (.tail _ (List.mem_map.mpr ⟨e, m, rfl⟩)))))⟩
def dropS (q : List Str) (x : Str) : List Str := q.filter fun y => decide (low y ≠ low x)
/-- one asking of the first table -/
def lruStep (room : Int) (st : Int × List Str) (nm : Str) : Int × List Str :=
  let hit := st.2.any fun y => decide (low y = low nm)
  let m := if hit then st.1 else st.1 + 1
  let q := if hit then st.2 else if (st.2.length : Int) = room then dropS st.2 (st.2.headD nm) else st.2
  (m, dropS q nm ++ [nm])
section
variable {w : World} {A : Around} {E : Value → Shared → Prop} {s₀ s : Shared} {g : Heap} {L : Addr} {ns : List Str} {vs : List (Option Value)} {nw nw' : List (Addr × Pd)} {env : Env}
/-- after a deletion -/
theorem tled_del {l x dx : Addr} {es : List Ent} {p : Ent → Bool} (pre : List (Addr × Pd)) (S : ST s₀ g L ns vs (pre ++ (l, isLx (prefs (es.filter p))) :: (x, isInst dx) :: (dx, isHD l) :: es.map fun e => (e.1, isP e.2)) s) : ST s₀ g L ns vs (pre ++ tled l x dx (es.filter p)) s := by
  refine S.weak (fun q hq => ?_) ?_
  · simp only [tled, List.mem_append, List.mem_cons, List.mem_map, List.mem_filter] at hq ⊢
    rcases hq with h | h | h | h | ⟨e, ⟨h1, _⟩, h2⟩
    · exact .inl h
    · exact .inr (.inl h)
    · exact .inr (.inr (.inl h))
    · exact .inr (.inr (.inr (.inl h)))
    · exact .inr (.inr (.inr (.inr ⟨e, h1, h2⟩)))
  · refine List.Nodup.sublist (List.Sublist.map _ ?_) S.nd
    exact List.Sublist.append (List.Sublist.refl _) (.cons₂ _ (.cons₂ _ (.cons₂ _ (List.Sublist.map _ List.filter_sublist))))
theorem tled_add {l x dx p : Addr} {nm : Str} {es : List Ent} (pre : List (Addr × Pd)) (S : ST s₀ g L ns vs ((p, isP nm) :: (pre ++ (l, isLx (prefs (es ++ [(p, nm)]))) :: (x, isInst dx) :: (dx, isHD l) :: es.map fun e => (e.1, isP e.2))) s) : ST s₀ g L ns vs (pre ++ tled l x dx (es ++ [(p, nm)])) s := by
  have q : (pre ++ tled l x dx (es ++ [(p, nm)])).Perm ((p, isP nm) :: (pre ++ (l, isLx (prefs (es ++ [(p, nm)]))) :: (x, isInst dx) :: (dx, isHD l) :: es.map fun e => (e.1, isP e.2))) := by
    simp only [tled, List.map_append, List.map_cons, List.map_nil]
    refine List.Perm.trans ?_ (List.perm_append_comm (l₁ := pre ++ (l, isLx (prefs (es ++ [(p, nm)]))) :: (x, isInst dx) :: (dx, isHD l) :: es.map fun e => (e.1, isP e.2)) (l₂ := [(p, isP nm)]))
    simp
  exact S.weak (fun r hr => q.subset hr) ((q.map _).nodup_iff.mpr S.nd)
abbrev hasS (q : List Str) (nm : Str) : Bool := q.any fun y => decide (low y = low nm)
theorem hasS_map (es : List Ent) (nm : Str) : (es.any fun e => decide (low e.2 = low nm)) = hasS (es.map (·.2)) nm := by rw [hasS, List.any_map]; rfl
section
variable {l x dx : Addr} {es : List Ent} {nm : Str} {t : Tok}
theorem t_notin {Q : Value → Shared → Prop} (W : Wld w g) (ok : Ok A 3) (S : ST s₀ g L ns vs nw s) (hm : ∀ p ∈ tled l x dx es, p ∈ nw) (he : ∀ e ∈ es, Nm e.2) (hn : Nm nm)
    (h1 : ∀ s', ST s₀ g L ns vs nw s' → hasS (es.map (·.2)) nm = false → Q (.bool true) s') (h2 : ∀ s', ST s₀ g L ns vs nw s' → hasS (es.map (·.2)) nm = true → Q (.bool false) s') : wpAny (model PR w) A (compareOp .NotIn (.str nm t) (.ref x)) Q E s := by
  obtain ⟨T, hl, ht⟩ := tled_tab S hm
  refine r_notinT S W T (contains_spec W S.keep ok T hl (fun e m => ⟨ht e m, he e m⟩) hn fun s' e k => ⟨_, rfl, ?_⟩)
  rw [hasS_map]
  cases q : hasS (es.map (·.2)) nm with
  | true => first | exact h1 _ (S.call0 e k) q | exact h2 _ (S.call0 e k) q
  | false => first | exact h1 _ (S.call0 e k) q | exact h2 _ (S.call0 e k) q
theorem t_in {Q : Value → Shared → Prop} (W : Wld w g) (ok : Ok A 3) (S : ST s₀ g L ns vs nw s) (hm : ∀ p ∈ tled l x dx es, p ∈ nw) (he : ∀ e ∈ es, Nm e.2) (hn : Nm nm)
    (h1 : ∀ s', ST s₀ g L ns vs nw s' → hasS (es.map (·.2)) nm = true → Q (.bool true) s') (h2 : ∀ s', ST s₀ g L ns vs nw s' → hasS (es.map (·.2)) nm = false → Q (.bool false) s') : wpAny (model PR w) A (compareOp .In (.str nm t) (.ref x)) Q E s := by
  obtain ⟨T, hl, ht⟩ := tled_tab S hm
  refine r_inT S W T (contains_spec W S.keep ok T hl (fun e m => ⟨ht e m, he e m⟩) hn fun s' e k => ⟨_, rfl, ?_⟩)
  rw [hasS_map]
  cases q : hasS (es.map (·.2)) nm with
  | true => first | exact h1 _ (S.call0 e k) q | exact h2 _ (S.call0 e k) q
  | false => first | exact h1 _ (S.call0 e k) q | exact h2 _ (S.call0 e k) q
theorem t_len {Q : Value → Shared → Prop} (W : Wld w g) (ok : Ok A 2) (S : ST s₀ g L ns vs nw s) (hm : ∀ p ∈ tled l x dx es, p ∈ nw) (hz : es.length < 1000)
    (h : ∀ t s', ST s₀ g L ns vs nw s' → Q (.int es.length t) s') : wpAny (model PR w) A (call (.builtin "len") [.ref x]) Q E s := by
  obtain ⟨T, hl, ht⟩ := tled_tab S hm
  refine r_lenT S W T (tlen_spec W S.keep ok.in1 T hl hz fun s' u e k => ⟨by omega, h _ _ (S.call0 e k).tok⟩)
theorem t_keys {Q : Value → Shared → Prop} (W : Wld w g) (ok : Ok A 1) (S : ST s₀ g L ns vs nw s) (hm : ∀ p ∈ tled l x dx es, p ∈ nw) (hz : es.length < 1000)
    (h : ∀ r kv s', ST s₀ g L ns vs ((r, isLx kv.toArray) :: nw) s' → Strs kv (es.map (·.2)) → Q (.ref r) s') : wpAny (model PR w) A (call (.ref 181) [.ref x]) Q E s := by
  obtain ⟨T, hl, ht⟩ := tled_tab S hm
  exact keys_spec W S.keep ok T hl ht hz fun s' r kv e k hr ha hv => h r kv s' (S.fresh ha hr (S.call0 e k)) hv
theorem tup_up {post : List (Addr × Pd)} {P P' : Pd} : ∀ {pre : List (Addr × Pd)}, Up l P' (pre ++ (l, P) :: post) (pre ++ (l, P') :: post)
  | [] => .head
  | _ :: _ => .tail tup_up
theorem t_del {Q : Unit → Shared → Prop} (pre : List (Addr × Pd)) (W : Wld w g) (ok : Ok A 2) (S : ST s₀ g L ns vs (pre ++ tled l x dx es) s) (he : ∀ e ∈ es, Nm e.2) (hn : Nm nm) (hz : es.length < 1000)
    (h : ∀ s', ST s₀ g L ns vs (pre ++ tled l x dx (es.filter fun e => decide (low e.2 ≠ low nm))) s' → Q () s') : wpAny (model PR w) A (delItem (.ref x) (.str nm t)) Q E s := by
  obtain ⟨T, hl, ht⟩ := tled_tab S fun p hp => List.mem_append_right _ hp
  refine r_delT S W T (delitem_spec W S.keep (S.led (l, isLx (prefs es)) (List.mem_append_right _ (.head _))).2.1 ok T hl (fun e m => ⟨ht e m, he e m⟩) hn hz fun s' e k ha => h _ (tled_del pre (S.call1 tup_up e k ha)))
theorem t_set {Q : Unit → Shared → Prop} {u : Tok} (pre : List (Addr × Pd)) (W : Wld w g) (ok : Ok A 3) (S : ST s₀ g L ns vs (pre ++ tled l x dx es) s) (he : ∀ e ∈ es, Nm e.2) (hn : Nm nm) (hz : es.length < 999)
    (h : ∀ p s', ST s₀ g L ns vs (pre ++ tled l x dx ((es.filter fun e => decide (low e.2 ≠ low nm)) ++ [(p, nm)])) s' → Q () s') : wpAny (model PR w) A (setItem (.ref x) (.str nm t) (.str (Str.ofString "held") u)) Q E s := by
  obtain ⟨T, hl, ht⟩ := tled_tab S fun p hp => List.mem_append_right _ hp
  refine r_setT S W T (setitem_spec W S.keep (S.led (l, isLx (prefs es)) (List.mem_append_right _ (.head _))).2.1 ok T hl (fun e m => ⟨ht e m, he e m⟩) hn hz fun s' p e k ha hp h1 h2 => h p _ (tled_add pre ?_))
  have S' : ST s₀ g L ns vs (pre ++ (l, isLx (prefs ((es.filter fun e => decide (low e.2 ≠ low nm)) ++ [(p, nm)]))) :: (x, isInst dx) :: (dx, isHD l) :: es.map fun e => (e.1, isP e.2)) s' := S.call1 tup_up e k ha
  have S'' := S.fresh' hp h1 S' (by simp)
  refine S''.weak (fun q hq => ?_) ?_
  · simp only [List.mem_append, List.mem_cons, List.mem_map, List.mem_filter] at hq ⊢
    rcases hq with h | h | h | h | h | ⟨e, ⟨h1, _⟩, h2⟩
    · exact .inl h
    · exact .inr (.inl h)
    · exact .inr (.inr (.inl h))
    · exact .inr (.inr (.inr (.inl h)))
    · exact .inr (.inr (.inr (.inr (.inl h))))
    · exact .inr (.inr (.inr (.inr (.inr ⟨e, h1, h2⟩))))
  · refine List.Nodup.sublist (List.Sublist.map _ ?_) S''.nd
    exact .cons₂ _ (List.Sublist.append (List.Sublist.refl _) (.cons₂ _ (.cons₂ _ (.cons₂ _ (List.Sublist.map _ List.filter_sublist)))))
theorem hasS_def (q : List Str) (nm : Str) : (q.any fun y => decide (low y = low nm)) = hasS q nm := rfl
theorem lru_hit {room : Int} {st : Int × List Str} (hq : hasS st.2 nm = true) : lruStep room st nm = (st.1, dropS st.2 nm ++ [nm]) := by
  unfold lruStep; rw [hasS_def, hq]; rfl
theorem lru_full {room : Int} {st : Int × List Str} (hq : hasS st.2 nm = false) (hr : (st.2.length : Int) = room) : lruStep room st nm = (st.1 + 1, dropS (dropS st.2 (st.2.headD nm)) nm ++ [nm]) := by
  unfold lruStep; rw [hasS_def, hq]; simp [hr]
theorem lru_room {room : Int} {st : Int × List Str} (hq : hasS st.2 nm = false) (hr : ¬ (st.2.length : Int) = room) : lruStep room st nm = (st.1 + 1, dropS st.2 nm ++ [nm]) := by
  unfold lruStep; rw [hasS_def, hq]; simp [hr]
theorem nmNew {p : Addr} {f : Ent → Bool} (he : ∀ e ∈ es, Nm e.2) (hn : Nm nm) : ∀ e ∈ es.filter f ++ [(p, nm)], Nm e.2 := by
  intro e m
  rcases List.mem_append.mp m with m | m
  · exact he e (List.mem_filter.mp m).1
  · rw [List.mem_singleton.mp m]; exact hn
theorem drop_map (es : List Ent) (nm : Str) : (es.filter fun e => decide (low e.2 ≠ low nm)).map (·.2) = dropS (es.map (·.2)) nm := by rw [dropS, List.filter_map]; rfl
end
theorem longest_spec {nl : Addr} {b : Heap} {ss : List Str} {nvs : List Value} {room : Int} {t : Tok} {Q : Value → Shared → Prop} (W : Wld w b) (hb : ∀ a o, b.get? a = some o → s.heap.get? a = some o) (ok : Ok A 5)
    (hl : At s.heap nl (isL nvs.toArray)) (hs : Strs nvs ss) (hn : ∀ x ∈ ss, Nm x) (hz : ss.length < 900) (hr : 1 ≤ room)
    (h : ∀ s' r k kv u, Same s s' → Keeps [] s.heap s'.heap → At s'.heap r (isT #[.int (ss.foldl (lruStep room) (0, [])).1 u, .ref k]) → At s'.heap k (isL kv.toArray) → Strs kv (ss.foldl (lruStep room) (0, [])).2 → s.heap.get? k = none → Q (.ref r) s') :
    wpAny (model PR w) A (call (.ref 247) [.ref nl, .int room t]) Q E s := by
  refine wpAny_call ?_
  refine enter [(Str.ofString "names", .ref nl), (Str.ofString "room", .int room t)] [Str.ofString "names", Str.ofString "room", Str.ofString "table", Str.ofString "missed", Str.ofString "name"]
    [some (.ref nl), some (.int room t), none, none, none] [] W hb (by simp) (by simp) rfl rfl ok.room (BindsTo.of_eq rfl) (locs rfl) (by decide +kernel) (by walk_at "m.hvs") ?_
  intro g L s1 hbg hsg hgs Wg S
  have hlg : At g nl (isL nvs.toArray) := (hl.into hsg (by simp))
  walk_at "m.go"
  refine r_Headers Wg S (ok.deeper.mono (by decide)) ?_
  intro x dx l s2 S2
  walk_at "m.go"
  rename_i S3 s4 S4
  refine r_for_listN (l := nl) (items := nvs.toArray) ok.hh (fun i vs nw => ∃ es o y, nw = tled l x dx es ∧ vs = [some (.ref nl), some (.int room t), some (.ref x), o, y] ∧ isI ((ss.take i).foldl (lruStep room) (0, [])).1 o ∧ es.map (·.2) = ((ss.take i).foldl (lruStep room) (0, [])).2 ∧ (∀ e ∈ es, Nm e.2) ∧ es.length ≤ i) (fun _ _ => False) S4 (S4.old hlg) ⟨[], _, _, rfl, rfl, isI.mk (by simp), by simp, by simp, by simp⟩ (fun _ _ _ _ _ S' => S'.old hlg) ?_ ?_
  · rintro I i v vs nw P0 s5 QQ hQQ hi hv ⟨es, _, y, rfl, rfl, ⟨u, rfl⟩, hm, he, hle⟩ S5
    have hi' : i < ss.length := by rw [← hs.1]; simpa using hi
    obtain ⟨t5, e5⟩ := hs.2 i ss[i] (List.getElem?_eq_getElem hi')
    rw [List.getElem?_toArray, e5] at hv
    cases hv
    have hnm : Nm ss[i] := hn _ (List.getElem_mem hi')
    have hst : (ss.take (i + 1)).foldl (lruStep room) (0, []) = lruStep room ((ss.take i).foldl (lruStep room) (0, [])) ss[i] := by
      rw [List.take_add_one, List.getElem?_eq_getElem hi', Option.toList_some, List.foldl_append, List.foldl_cons, List.foldl_nil]
    walk_at "m.go"
    rename_i S6
    have sub : ∀ p ∈ tled l x dx es, p ∈ (I, P0) :: tled l x dx es := fun p h => .tail _ h
    refine t_notin Wg (ok.deeper.mono (by decide)) S6 sub he hnm ?_ ?_
    · intro s7 S7 hq
      walk_at "m.go"
      rename_i S8
      refine t_len Wg (ok.deeper.mono (by decide)) S8 sub (by omega) ?_
      intro t9 s9 S9
      walk_at "m.go"
      · rename_i hroom
        refine r_meth (by assumption) Wg (tled_tab S9 sub).1 K_keys ?_
        walk_at "m.go"
        refine t_keys Wg (ok.deeper.mono (by decide)) S9 sub (by omega) ?_
        intro r kv sA SA hkv
        walk_at "m.go"
        rename_i tC sC SC
        have hne : 0 < es.length := by simp only [decide_eq_true_eq, beq_iff_eq] at hroom; omega
        obtain ⟨e0, hes⟩ : ∃ e0, es[0]? = some e0 := ⟨_, List.getElem?_eq_getElem hne⟩
        obtain ⟨u0, hu0⟩ := hkv.2 0 e0.2 (by rw [List.getElem?_map, hes]; rfl)
        refine r_itemx (v := .str e0.2 u0) (SC.new (.head _)) (by omega) (by omega) (by simpa using hu0) ?_
        have hn0 : Nm e0.2 := he e0 (List.mem_of_getElem? hes)
        walk_at "m.go"
        refine t_del [(r, isLx kv.toArray), (I, P0)] Wg (ok.deeper.mono (by decide)) SC he hn0 (by omega) ?_
        intro sD SD
        have he' : ∀ e ∈ es.filter (fun e => decide (low e.2 ≠ low e0.2)), Nm e.2 := fun e m => he e (List.mem_filter.mp m).1
        have hle' := List.length_filter_le (fun e : Ent => decide (low e.2 ≠ low e0.2)) es
        walk_at "m.go"
        refine t_set [(r, isLx kv.toArray), (I, P0)] Wg (ok.deeper.mono (by decide)) (by assumption) he' hnm (by omega) ?_
        intro p sB SB
        walk_at "m.go"
        refine hQQ _ _ ⟨_, _, SB.tail, _, _, _, rfl, rfl, isI.mk ?_, ?_, nmNew he' hnm, ?_⟩
        · rw [hst, lru_full (by rw [← hm]; exact hq) (by rw [← hm]; simpa using hroom)]
        · rw [hst, lru_full (by rw [← hm]; exact hq) (by rw [← hm]; simpa using hroom), ← hm, List.map_append, drop_map, drop_map]
          have : (es.map (·.2)).headD ss[i] = e0.2 := by rw [List.headD_eq_head?_getD, List.head?_eq_getElem?, List.getElem?_map, hes]; rfl
          rw [this]; rfl
        · have := List.length_filter_le (fun e : Ent => decide (low e.2 ≠ low ss[i])) (es.filter (fun e => decide (low e.2 ≠ low e0.2)))
          simp only [List.length_append, List.length_cons, List.length_nil]; omega
      · rename_i hroom
        walk_at "m.go"
        refine t_set [(I, P0)] Wg (ok.deeper.mono (by decide)) (by assumption) he hnm (by omega) ?_
        intro p sB SB
        walk_at "m.go"
        refine hQQ _ _ ⟨_, _, SB, _, _, _, rfl, rfl, isI.mk ?_, ?_, nmNew he hnm, ?_⟩
        · rw [hst, lru_room (by rw [← hm]; exact hq) (by rw [← hm]; simpa using hroom)]
        · rw [hst, lru_room (by rw [← hm]; exact hq) (by rw [← hm]; simpa using hroom), ← hm, List.map_append, drop_map]; rfl
        · have := List.length_filter_le (fun e : Ent => decide (low e.2 ≠ low ss[i])) es
          simp only [List.length_append, List.length_cons, List.length_nil]; omega
    · intro s7 S7 hq
      walk_at "m.go"
      refine t_set [(I, P0)] Wg (ok.deeper.mono (by decide)) (by assumption) he hnm (by omega) ?_
      intro p sB SB
      walk_at "m.go"
      refine hQQ _ _ ⟨_, _, SB, _, _, _, rfl, rfl, isI.mk ?_, ?_, nmNew he hnm, ?_⟩
      · rw [hst, lru_hit (by rw [← hm]; exact hq)]
      · rw [hst, lru_hit (by rw [← hm]; exact hq), ← hm, List.map_append, drop_map]; rfl
      · have := List.length_filter_le (fun e : Ent => decide (low e.2 ≠ low ss[i])) es
        simp only [List.length_append, List.length_cons, List.length_nil]; omega
  · rintro vs nw s5 (⟨es, _, y, rfl, rfl, ⟨u, rfl⟩, hm, he, hle⟩ | hf) S5
    · have hss : ss.take nvs.toArray.size = ss := by rw [List.size_toArray, hs.1, List.take_length]
      rw [hss] at hm S5
      have hlen : es.length < 1000 := by rw [List.size_toArray, hs.1] at hle; omega
      walk_at "m.go"
      refine r_meth (by assumption) Wg (tled_tab S5 fun _ h => h).1 K_keys ?_
      walk_at "m.go"
      refine t_keys Wg (ok.deeper.mono (by decide)) S5 (fun _ h => h) hlen ?_
      intro r kv sA SA hkv
      walk_at "m.go"
      rename_i rt sB SB _
      have hr0 : s.heap.get? r = none := by
        cases q : s.heap.get? r with
        | none => rfl
        | some o =>
          have := hsg r o q (by simp)
          rw [(SB.led _ (.tail _ (.head _))).2.1] at this; cases this
      refine h _ rt r kv u SB.same (SB.keeps hsg) (SB.new (.head _)) (SB.new (.tail _ (.head _))).weak ?_ hr0
      rw [← hm]; exact hkv
    · exact hf.elim
end
section
variable {w : World} {A : Around} {E : Value → Shared → Prop} {s₀ s : Shared} {g : Heap} {L : Addr} {ns : List Str} {vs : List (Option Value)} {nw nw' : List (Addr × Pd)} {env : Env}
theorem r_notin_ints {l : Addr} {iv : List Value} {ks : List Int} {k : Int} {t : Tok} {Q : Value → Shared → Prop} (hl : At s.heap l (isL iv.toArray)) (hi : IntsAre iv ks) (h1 : k ∉ ks → Q (.bool true) s) (h2 : k ∈ ks → Q (.bool false) s) :
    wpAny (model PR w) A (compareOp .NotIn (.int k t) (.ref l)) Q E s := by
  refine notin_list_ints hl hi ?_
  have : ks.any (· == k) = decide (k ∈ ks) := by rw [Bool.eq_iff_iff]; simp
  rw [this]
  by_cases hk : k ∈ ks
  · simp only [hk, decide_true, Bool.not_true]; exact h2 hk
  · simp only [hk, decide_false, Bool.not_false]; exact h1 hk
/-- an int of a list of ints -/
theorem r_inti {value slice : Expr} {l : Addr} {iv : List Value} {ks : List Int} {k : Int} {u : Tok} {v : Int} {Q : Value → Shared → Prop}
    (hl : At s.heap l (isL iv.toArray)) (hi : IntsAre iv ks) (h0 : 0 ≤ k) (hhi : k < 2 ^ 63) (hx : ks[k.toNat]? = some v) (h : ∀ t, Q (.int v t) s)
    (hs : subscripted slice false (.ref l) (.int k u) = operate [.ref l, .int k u] (getItem (.ref l) (.int k u)) := by with_unfolding_all rfl) :
    wpAny (model PR w) A (subscriptTail value slice (.ref l) (.int k u)) Q E s := by
  obtain ⟨t, e⟩ := hi.get _ _ hx
  exact r_item hl h0 hhi (by simpa using e) (h t) hs
theorem intsOne (k : Int) (t : Tok) : IntsAre [.int k t] [k] := by constructor; constructor
def back (ks : List Int) (k : Int) : Nat → List Int → Nat × List Int
  | 0, bt => (0, bt)
  | n + 1, bt => if ks.getD n 0 = k then (n + 1, bt) else back ks k n (if ks.getD n 0 ∈ bt then bt else bt ++ [ks.getD n 0])
/-- is the i-th asking one of the misses -/
abbrev lbMiss (ks : List Int) (room : Int) (i : Nat) : Prop := (back ks (ks.getD i 0) i []).1 = 0 ∨ ((back ks (ks.getD i 0) i []).2.length : Int) ≥ room
def lbCount (ks : List Int) (room : Int) : Nat → Int
  | 0 => 0
  | i + 1 => if lbMiss ks room i then lbCount ks room i + 1 else lbCount ks room i
theorem back_len (ks : List Int) (k : Int) : ∀ n bt, (back ks k n bt).2.length ≤ bt.length + n
  | 0, bt => by simp [back]
  | n + 1, bt => by
    rw [back]
    split
    · dsimp only; omega
    · split
      · have := back_len ks k n bt; omega
      · have := back_len ks k n (bt ++ [ks.getD n 0]); rw [List.length_append, List.length_singleton] at this; omega
theorem getD_some {ks : List Int} {i : Nat} (h : i < ks.length) : ks[i]? = some (ks.getD i 0) := by
  rw [List.getElem?_eq_getElem h, List.getD_eq_getElem?_getD, List.getElem?_eq_getElem h]; rfl
theorem fitsL {x : Int} (h : -1000 < x ∧ x < 2000) : Builtin.Range.rangeFitsLong x = true := by
  unfold Builtin.Range.rangeFitsLong
  simp only [Bool.and_eq_true, decide_eq_true_eq]
  omega
theorem size_1 {a b : Int} (h : a ≤ b) : Builtin.Range.rangeSize a b 1 = b - a := by
  unfold Builtin.Range.rangeSize
  rw [if_pos (by omega)]
  split <;> omega
theorem size_d (n : Nat) : Builtin.Range.rangeSize ((n : Int) - 1) (-1) (-1) = n := by
  unfold Builtin.Range.rangeSize
  rw [if_neg (by omega), show (- -1 : Int) = 1 from rfl, Int.ediv_one]
  split <;> omega
theorem small_1 {a b : Int} (h : a ≤ b) (ha : 0 ≤ a) (hb : b < 1000) : Builtin.Range.small a b 1 = true := by
  unfold Builtin.Range.small
  rw [size_1 h, fitsL (by omega), fitsL (by omega), fitsL (by omega), fitsL (by omega)]
  simp only [show (1 : Int) > 0 by omega, if_true, fitsL (x := b + (1 - 1)) (by omega), Bool.or_true, Bool.and_true]
theorem small_d {n : Nat} (h : n < 900) : Builtin.Range.small ((n : Int) - 1) (-1) (-1) = true := by
  unfold Builtin.Range.small
  rw [size_d, fitsL (by omega), fitsL (by omega), fitsL (x := (n : Int)) (by omega)]
  simp only [show ¬ (-1 : Int) > 0 by omega, if_false, fitsL (x := -1 + (-1 + 1)) (by omega), Bool.or_true, Bool.and_true]
theorem small_up {n : Nat} (h : n < 900) : Builtin.Range.small 0 n 1 = true := small_1 (by omega) (by omega) (by omega)
theorem size_up (n : Nat) : Builtin.Range.rangeSize 0 n 1 = n := by rw [size_1 (by omega)]; omega
theorem S_drop {p q : Addr × Pd} (S : ST s₀ g L ns vs (p :: q :: nw) s) : ST s₀ g L ns vs (q :: nw) s := S.tail
theorem looking_spec {kl : Addr} {b : Heap} {ks : List Int} {kv : List Value} {room : Int} {t : Tok} {Q : Value → Shared → Prop} (W : Wld w b) (hb : ∀ a o, b.get? a = some o → s.heap.get? a = some o) (ok : Ok A 1)
    (hl : At s.heap kl (isL kv.toArray)) (hs : IntsAre kv ks) (hz : ks.length < 900)
    (h : ∀ s' u, Same s s' → Keeps [] s.heap s'.heap → Q (.int (lbCount ks room ks.length) u) s') :
    wpAny (model PR w) A (call (.ref 259) [.ref kl, .int room t]) Q E s := by
  refine wpAny_call ?_
  refine enter [(Str.ofString "kinds", .ref kl), (Str.ofString "room", .int room t)] [Str.ofString "kinds", Str.ofString "room", Str.ofString "missed", Str.ofString "i", Str.ofString "between", Str.ofString "j"]
    [some (.ref kl), some (.int room t), none, none, none, none] [] W hb (by simp) (by simp) rfl rfl ok.room (BindsTo.of_eq rfl) (locs rfl) (by decide +kernel) (by walk_at "m.hvs") ?_
  intro g L s1 hbg hsg hgs Wg S
  have hlg : At g kl (isL kv.toArray) := (hl.into hsg (by simp))
  have hlen := hs.length
  walk_at "m.go"
  refine r_len (by assumption) (ST.old (by assumption) hlg) (by simp only [List.size_toArray]; omega) ?_
  intro t2 s2 S2
  walk_at "m.go"
  refine r_range1 (by assumption) ?_
  intro rg s3 S3
  rw [show ((kv.toArray.size : Nat) : Int) = (ks.length : Int) by simp [hlen]] at S3
  refine r_for_rangeN (r := rg) (n := ks.length) ok.hh (fun i vs nw => ∃ o x1 x2 x3, nw = [(rg, isRg 0 ks.length 1)] ∧ vs = [some (.ref kl), some (.int room t), o, x1, x2, x3] ∧ isI (lbCount ks room i) o) (fun _ _ => False) S3 (S3.new (.head _)) (small_up hz) (size_up _) ⟨_, _, _, _, rfl, rfl, isI.mk rfl⟩ ?_ ?_
  · rintro I i t4 vs nw P0 s4 QQ hQQ hi ⟨_, x1, x2, x3, rfl, rfl, ⟨u, rfl⟩⟩ S4
    have hki := getD_some hi
    rw [show (0 : Int) + 1 * (i : Int) = i by omega]
    walk_at "m.go"
    rename_i bl _ _ _ _ _ _ _ _ _ _ _ S7
    refine r_whileN (n₀ := i) (fun n vs nw => ∃ o bt iv, nw = [(bl, isLx iv.toArray), (I, P0), (rg, isRg 0 ks.length 1)] ∧ vs = [some (.ref kl), some (.int room t), some (.int (lbCount ks room i) u), some (.int i t4), some (.ref bl), o] ∧ isI (n - 1) o ∧ IntsAre iv bt ∧ n ≤ i ∧ back ks (ks.getD i 0) n bt = back ks (ks.getD i 0) i [] ∧ bt.length + n ≤ i)
      (fun vs nw => ∃ o, ∃ n : Nat, ∃ bt iv, nw = [(bl, isLx iv.toArray), (I, P0), (rg, isRg 0 ks.length 1)] ∧ vs = [some (.ref kl), some (.int room t), some (.int (lbCount ks room i) u), some (.int i t4), some (.ref bl), o] ∧ isI (n - 1) o ∧ IntsAre iv bt ∧ back ks (ks.getD i 0) i [] = (n, bt) ∧ bt.length ≤ i)
      (by assumption) ⟨_, [], [], rfl, rfl, isI.mk rfl, .nil, Nat.le_refl _, rfl, by simp⟩ ?_ ?_
    · rintro n vs nw s8 QB QX hQB hQX ⟨_, bt, iv, rfl, rfl, ⟨u8, rfl⟩, hiv, hni, hbk, hlb⟩ S8
      walk_at "m.go"
      · rename_i hj
        obtain ⟨m, rfl⟩ : ∃ m, n = m + 1 := ⟨n - 1, by omega⟩
        have hkm := getD_some (ks := ks) (i := m) (by omega)
        refine r_inti (v := ks.getD m 0) (ST.old (by assumption) hlg) hs (by omega) (by omega) (by rw [show ((m + 1 : Nat) : Int) - 1 = m by omega]; exact hkm) ?_
        intro ta
        walk_at "m.go"
        refine r_inti (v := ks.getD i 0) (ST.old (by assumption) hlg) hs (by omega) (by omega) hki ?_
        intro tb
        walk_at "m.go"
        · rename_i hne
          have hne' : ¬ ks.getD m 0 = ks.getD i 0 := by simpa using hne
          have hb2 := hbk
          rw [back, if_neg hne'] at hb2
          refine r_inti (v := ks.getD m 0) (ST.old (by assumption) hlg) hs (by omega) (by omega) (by rw [show ((m + 1 : Nat) : Int) - 1 = m by omega]; exact hkm) ?_
          intro tc
          walk_at "m.go"
          refine r_notin_ints (ST.new (by assumption) (.head _)).weak hiv ?_ ?_
          · intro hnin
            rw [if_neg hnin] at hb2
            walk_at "m.go"
            refine r_inti (v := ks.getD m 0) (ST.old (by assumption) hlg) hs (by omega) (by omega) (by rw [show ((m + 1 : Nat) : Int) - 1 = m by omega]; exact hkm) ?_
            intro td
            walk_at "m.go"
            have hlv := hiv.length
            refine r_append (by assumption) (ST.new (by assumption) (.head _)) (by rw [List.size_toArray, sizeLine_eq]; omega) (by walk_at "m.up") ?_
            intro sa Sa
            rw [List.push_toArray] at Sa
            walk_at "m.go"
            refine hQB _ _ ⟨m, _, _, by omega, by assumption, _, bt ++ [ks.getD m 0], _, rfl, rfl, isI.mk (by omega), hiv.append (intsOne _ _), by omega, hb2, ?_⟩
            rw [List.length_append, List.length_singleton]; omega
          · intro hin
            rw [if_pos hin] at hb2
            walk_at "m.go"
            exact hQB _ _ ⟨m, _, _, by omega, by assumption, _, bt, _, rfl, rfl, isI.mk (by omega), hiv, by omega, hb2, by omega⟩
        · rename_i hne
          have hne' : ks.getD m 0 = ks.getD i 0 := by simpa using hne
          refine s_ff (hQX _ ⟨_, _, by assumption, _, m + 1, bt, iv, rfl, rfl, isI.mk rfl, hiv, ?_, by omega⟩)
          rw [← hbk, back, if_pos hne']
      · rename_i hj
        have : n = 0 := by omega
        subst this
        refine s_ff (hQX _ ⟨_, _, by assumption, _, 0, bt, iv, rfl, rfl, isI.mk rfl, hiv, ?_, by omega⟩)
        rw [← hbk, back]
    · rintro vs nw s8 ⟨_, n, bt, iv, rfl, rfl, ⟨u8, rfl⟩, hiv, hbk, hlb⟩ S8
      have hl8 := hiv.length
      walk_at "m.go"
      · refine hQQ _ _ ⟨_, _, S_drop (by assumption), _, _, _, _, rfl, rfl, isI.mk ?_⟩
        rw [lbCount, if_pos]
        left; rw [hbk]; dsimp only; omega
      · rename_i hj
        walk_at "m.go"
        refine r_lenx (by assumption) (ST.new (by assumption) (.head _)) (by simp only [List.size_toArray]; omega) ?_
        intro t9 s9 S9
        walk_at "m.go"
        · refine hQQ _ _ ⟨_, _, S_drop (by assumption), _, _, _, _, rfl, rfl, isI.mk ?_⟩
          have hg : ((iv.toArray.size : Nat) : Int) ≥ room := by assumption
          rw [lbCount, if_pos]
          right; rw [hbk]; rw [List.size_toArray, hl8] at hg; exact hg
        · rename_i hg
          walk_at "m.go"
          refine hQQ _ _ ⟨_, _, S_drop (by assumption), _, _, _, _, rfl, rfl, isI.mk ?_⟩
          rw [lbCount, if_neg]
          rintro (q | q)
          · rw [hbk] at q; dsimp only at q; omega
          · rw [hbk] at q; apply hg; rw [List.size_toArray, hl8]; exact q
  · rintro vs nw s4 (⟨_, x1, x2, x3, rfl, rfl, ⟨u, rfl⟩⟩ | hf) S4
    · walk_at "m.go"
      exact h _ _ S4.same (S4.keeps hsg)
    · exact hf.elim
end
section
variable {w : World} {A : Around} {E : Value → Shared → Prop} {s₀ s : Shared} {g : Heap} {L : Addr} {ns : List Str} {vs : List (Option Value)} {nw nw' : List (Addr × Pd)} {env : Env}
theorem r_getslice {value slice : Expr} {l sl : Addr} {items : Array Value} {vl vu vk : Value} {lo hi st : Option Int} {ops : List Value} {Q : Value → Shared → Prop} (S : ST s₀ g L ns vs nw s) (hl : At s.heap l (isL items)) (hsl : At s.heap sl (isSl vl vu vk))
    (pl : IsPart vl lo) (pu : IsPart vu hi) (pk : IsPart vk st) (h0 : st ≠ some 0) (hsz : items.size ≤ 1000) (h : ∀ a s', ST s₀ g L ns vs ((a, isLx (slicePick items lo hi st)) :: nw) s' → Q (.ref a) s')
    (hs : subscripted slice false (.ref l) (.ref sl) = operate ops (getItem (.ref l) (.ref sl))) :
    wpAny (model PR w) A (subscriptTail value slice (.ref l) (.ref sl)) Q E s :=
  tail_any (Heap.IsList.typeIs hl) list_getitem_lookup (wpAny_getItem_list_slice hl hsl pl pu pk h0 (h _ _ (S.push (P := isLx _) ⟨_, rfl⟩)) (by rw [sizeLine_eq]; omega)) hs
def lkRun (ks : List Int) (nn : List Str) : Nat → List Int × List Str
  | 0 => ([], [])
  | m + 1 => if ks.getD (nn.length - 1 - m) 0 ∈ (lkRun ks nn m).1 then lkRun ks nn m else ((lkRun ks nn m).1 ++ [ks.getD (nn.length - 1 - m) 0], (lkRun ks nn m).2 ++ [nn.getD (nn.length - 1 - m) default])
theorem lkRun_len (ks : List Int) (nn : List Str) : ∀ m, (lkRun ks nn m).1.length ≤ m ∧ (lkRun ks nn m).2.length = (lkRun ks nn m).1.length
  | 0 => by simp [lkRun]
  | m + 1 => by
    have := lkRun_len ks nn m
    rw [lkRun]
    split
    · omega
    · rw [List.length_append, List.length_append, List.length_singleton, List.length_singleton]; omega
theorem getDS_some {ks : List Str} {i : Nat} (h : i < ks.length) : ks[i]? = some (ks.getD i default) := by
  rw [List.getElem?_eq_getElem h, List.getD_eq_getElem?_getD, List.getElem?_eq_getElem h]; rfl
theorem r_stri {value slice : Expr} {l : Addr} {iv : List Value} {ks : List Str} {k : Int} {u : Tok} {v : Str} {Q : Value → Shared → Prop}
    (hl : At s.heap l (isL iv.toArray)) (hi : Strs iv ks) (h0 : 0 ≤ k) (hhi : k < 2 ^ 63) (hx : ks[k.toNat]? = some v) (h : ∀ t, Q (.str v t) s)
    (hs : subscripted slice false (.ref l) (.int k u) = operate [.ref l, .int k u] (getItem (.ref l) (.int k u)) := by with_unfolding_all rfl) :
    wpAny (model PR w) A (subscriptTail value slice (.ref l) (.int k u)) Q E s := by
  obtain ⟨t, e⟩ := hi.2 _ _ hx
  exact r_item hl h0 hhi (by simpa using e) (h t) hs
theorem Strs.take {iv : List Value} {ks : List Str} (h : Strs iv ks) {n : Nat} : Strs (iv.take n) (ks.take n) := by
  refine ⟨by simp [h.1], fun i x hx => ?_⟩
  rw [List.getElem?_take] at hx ⊢
  split at hx
  · rename_i hi; rw [if_pos hi]; exact h.2 i x hx
  · cases hx
theorem Strs.reverse {iv : List Value} {ks : List Str} (h : Strs iv ks) : Strs iv.reverse ks.reverse := by
  refine ⟨by simp [h.1], fun i x hx => ?_⟩
  have hi : i < ks.length := by
    have := (List.getElem?_eq_some_iff.mp hx).1
    simpa using this
  rw [List.getElem?_reverse (by simpa using hi)] at hx
  rw [List.getElem?_reverse (by rw [h.1]; exact hi), h.1]
  exact h.2 _ x hx
theorem last_spec {nl kl : Addr} {b : Heap} {ks : List Int} {nn : List Str} {kv nv : List Value} {room : Nat} {t : Tok} {Q : Value → Shared → Prop} (W : Wld w b) (hb : ∀ a o, b.get? a = some o → s.heap.get? a = some o) (ok : Ok A 1)
    (hn : At s.heap nl (isL nv.toArray)) (hns : Strs nv nn) (hl : At s.heap kl (isL kv.toArray)) (hs : IntsAre kv ks) (hz : nn.length < 900) (hkn : ks.length = nn.length)
    (h : ∀ s' r rv, Same s s' → Keeps [] s.heap s'.heap → At s'.heap r (isL rv.toArray) → Strs rv ((lkRun ks nn nn.length).2.take room).reverse → s.heap.get? r = none → Q (.ref r) s') :
    wpAny (model PR w) A (call (.ref 266) [.ref nl, .ref kl, .int room t]) Q E s := by
  refine wpAny_call ?_
  refine enter [(Str.ofString "names", .ref nl), (Str.ofString "kinds", .ref kl), (Str.ofString "room", .int room t)] [Str.ofString "names", Str.ofString "kinds", Str.ofString "room", Str.ofString "seen", Str.ofString "last", Str.ofString "i"]
    [some (.ref nl), some (.ref kl), some (.int room t), none, none, none] [] W hb (by simp) (by simp) rfl rfl ok.room (BindsTo.of_eq rfl) (locs rfl) (by decide +kernel) (by walk_at "m.hvs") ?_
  intro g L s1 hbg hsg hgs Wg S
  have hlg : At g kl (isL kv.toArray) := (hl.into hsg (by simp))
  have hng : At g nl (isL nv.toArray) := (hn.into hsg (by simp))
  have hlen := hs.length
  have hlen2 := hns.1
  walk_at "m.go"
  rename_i sl _ _ _ _ ll _ _ _ _
  refine r_len (by assumption) (ST.old (by assumption) hng) (by simp only [List.size_toArray]; omega) ?_
  intro t2 s2 S2
  walk_at "m.go"
  have hsz : ((nv.toArray.size : Nat) : Int) = (nn.length : Int) := by simp [hlen2]
  rw [hsz]
  refine r_range3 (by assumption) (by decide) ?_ ?_
  · exact PyProof.noPylong_of_log2 (by decide)
  intro rg s3 S3
  refine r_for_rangeN (r := rg) (n := nn.length) ok.hh (fun i vs nw => ∃ sv lv x1, nw = [(rg, isRg ((nn.length : Int) - 1) (-1) (-1)), (ll, isLx lv.toArray), (sl, isLx sv.toArray)] ∧ vs = [some (.ref nl), some (.ref kl), some (.int room t), some (.ref sl), some (.ref ll), x1] ∧ IntsAre sv (lkRun ks nn i).1 ∧ Strs lv (lkRun ks nn i).2) (fun _ _ => False) S3 (S3.new (.head _)) (small_d hz) (size_d _) ⟨[], [], _, rfl, rfl, .nil, Strs.nil⟩ ?_ ?_
  · rintro I i t4 vs nw P0 s4 QQ hQQ hi ⟨sv, lv, x1, rfl, rfl, hsv, hlv⟩ S4
    rw [show ((nn.length : Int) - 1) + (-1) * (i : Int) = ((nn.length - 1 - i : Nat) : Int) by omega]
    have hki := getD_some (ks := ks) (i := nn.length - 1 - i) (by omega)
    have hni := getDS_some (ks := nn) (i := nn.length - 1 - i) (by omega)
    have hl1 := hsv.length
    have hl2 := hlv.1
    have hl3 := lkRun_len ks nn i
    walk_at "m.go"
    refine r_inti (ST.old (by assumption) hlg) hs (by omega) (by omega) hki ?_
    intro ta
    walk_at "m.go"
    refine r_notin_ints (ST.new (by assumption) (by walk_at "m.mem")).weak hsv ?_ ?_
    · intro hnin
      walk_at "m.go"
      refine r_inti (ST.old (by assumption) hlg) hs (by omega) (by omega) hki ?_
      intro tb
      walk_at "m.go"
      refine r_append (by assumption) (ST.new (by assumption) (.tail _ (.tail _ (.tail _ (.head _))))) (by rw [List.size_toArray, sizeLine_eq]; omega) (by walk_at "m.up") ?_
      intro sa Sa
      rw [List.push_toArray] at Sa
      walk_at "m.go"
      refine r_stri (ST.old (by assumption) hng) hns (by omega) (by omega) hni ?_
      intro tc
      walk_at "m.go"
      refine r_append (by assumption) (ST.new (by assumption) (.tail _ (.tail _ (.head _)))) (by rw [List.size_toArray, sizeLine_eq]; omega) (by walk_at "m.up") ?_
      intro sb Sb
      rw [List.push_toArray] at Sb
      walk_at "m.go"
      refine hQQ _ _ ⟨_, _, by assumption, _, _, _, rfl, rfl, ?_, ?_⟩
      · rw [lkRun, if_neg hnin]; exact hsv.append (intsOne _ _)
      · rw [lkRun, if_neg hnin]; exact hlv.snoc
    · intro hin
      walk_at "m.go"
      refine hQQ _ _ ⟨_, _, by assumption, _, _, _, rfl, rfl, ?_, ?_⟩
      · rw [lkRun, if_pos hin]; exact hsv
      · rw [lkRun, if_pos hin]; exact hlv
  · rintro vs nw s4 (⟨sv, lv, x1, rfl, rfl, hsv, hlv⟩ | hf) S4
    · walk_at "m.go"
      have hl2 := hlv.1
      have hl3 := lkRun_len ks nn nn.length
      refine r_getslice (by assumption) (ST.new (by assumption) (.tail _ (.tail _ (.head _)))).weak (ST.new (by assumption) (.head _)) .none (.int _ _) .none (by simp) (by rw [List.size_toArray]; omega) ?_ (by with_unfolding_all rfl)
      intro a1 s5 S5
      rw [slicePick_upto'] at S5
      walk_at "m.go"
      refine r_getslice (by assumption) (ST.new (by assumption) (by walk_at "m.mem")).weak (ST.new (by assumption) (.head _)) .none .none (.int _ _) (by simp) (by rw [List.size_toArray, List.length_take]; simp; omega) ?_ (by with_unfolding_all rfl)
      intro a2 s6 S6
      rw [krv_pick] at S6
      walk_at "m.go"
      have hr : s.heap.get? a2 = none := by
        cases q : s.heap.get? a2 with
        | none => rfl
        | some o =>
          have := hsg a2 o q (by simp)
          rw [(S6.led _ (.head _)).2.1] at this; cases this
      exact h _ a2 _ S6.same (S6.keeps hsg) (S6.new (.head _)).weak (hlv.take.reverse) hr
    · exact hf.elim
end
section
variable {w : World} {A : Around} {E : Value → Shared → Prop} {s₀ s : Shared} {g : Heap} {L : Addr} {ns : List Str} {vs : List (Option Value)} {nw nw' : List (Addr × Pd)} {env : Env}
theorem r_addlists {l b : Addr} {xs ys : List Value} {Q : Value → Shared → Prop} (S : ST s₀ g L ns vs nw s) (hl : At s.heap l (isL xs.toArray)) (hb : At s.heap b (isL ys.toArray)) (hsz : xs.length + ys.length ≤ 1000)
    (h : ∀ a s', ST s₀ g L ns vs ((a, isLx (xs ++ ys).toArray) :: nw) s' → Q (.ref a) s') : wpAny (model PR w) A (binaryOp .Add (.ref l) (.ref b)) Q E s := by
  obtain ⟨m, F⟩ := S.fr
  obtain ⟨⟨cls, dd, data, sl⟩, ho, hc, n, hd⟩ := id hl
  obtain ⟨⟨cls', dd', data', sl'⟩, ho', hc', n', hd'⟩ := id hb
  dsimp only at hc hd hc' hd'
  subst hc hd hc' hd'
  have e : xs.toArray ++ ys.toArray = (xs ++ ys).toArray := by simp
  refine concat_meets ⟨_, ho, rfl⟩ ⟨_, ho', rfl⟩ noFill_list_add seq_list_add PySem.F.slot_list_add PySem.F.entry_list_add (PySem.F.args_list_add_2 _ _) (list_addW l b xs.toArray ys.toArray n n' dd dd' sl sl' (by rw [sizeLine_eq]; simp only [List.size_toArray]; omega)) ⟨ho, ho', ?_⟩
  rw [e]
  exact h _ _ (S.push (P := isLx _) ⟨_, rfl⟩)
end
/-- the heap's order -/
def Heapy (es : List Elt) : Prop := ∀ i a b, 0 < i → es[i]? = some a → es[(i - 1) / 2]? = some b → klt a.2 b.2 = false
/-- the places of the next askings of the i-th one's kind -/
def lats (ks : List Int) (i : Nat) (k : Nat) : List Int := ((List.range k).map fun d => ((i + 1 + d : Nat) : Int)).filter fun j => decide (ks.getD j.toNat 0 = ks.getD i 0)
def nxt (ks : List Int) (n i : Nat) : Int := (lats ks i (n - (i + 1)) ++ [(n : Int)]).headD 0
def bkey (ks : List Int) (nn : List Str) (i : Nat) : Key := (-nxt ks nn.length i, nn.getD i default)
/-- what the second table's run can be: askings, misses, the table's names, the heap's keys -/
inductive Bel (ks : List Int) (nn : List Str) (room : Nat) : Nat → Int → List Str → List Key → Prop
  | zero : Bel ks nn room 0 0 [] []
  | hit {i m q h h'} : Bel ks nn room i m q h → hasS q (nn.getD i default) = true → h'.Perm (bkey ks nn i :: h) → Bel ks nn room (i + 1) m q h'
  | room {i m q h h'} : Bel ks nn room i m q h → hasS q (nn.getD i default) = false → q.length < room → h'.Perm (bkey ks nn i :: h) → Bel ks nn room (i + 1) (m + 1) (dropS q (nn.getD i default) ++ [nn.getD i default]) h'
  | full {i m q h h' top} : Bel ks nn room i m q h → hasS q (nn.getD i default) = false → ¬ q.length < room → (top :: h').Perm (bkey ks nn i :: h) → top ∈ h → (∀ k ∈ h, klt k top = false) →
      Bel ks nn room (i + 1) (m + 1) (dropS (dropS q top.2) (nn.getD i default) ++ [nn.getD i default]) h'
/-- the order of the keys: asymmetric, and not-less is transitive -/
theorem klt_asymm {a b : Key} (h : klt a b = true) : klt b a = false := by
  unfold klt at *
  by_cases h1 : a.1 = b.1
  · by_cases h2 : a.2 = b.2
    · simp [h1, h2] at h
    · have h2' : ¬ b.2 = a.2 := fun e => h2 e.symm
      simp only [h1, h2, h2', if_true, if_false, decide_eq_true_eq, decide_eq_false_iff_not] at h ⊢
      exact List.lt_asymm h
  · have h1' : ¬ b.1 = a.1 := fun e => h1 e.symm
    simp only [h1, h1', if_false, decide_eq_true_eq, decide_eq_false_iff_not] at h ⊢
    omega
theorem str_cps {x y : Str} (h : x.cps.toList = y.cps.toList) : x = y := by
  cases x; cases y; simp at h; rw [h]
theorem kge_iff {a b : Key} : klt a b = false ↔ b.1 < a.1 ∨ (b.1 = a.1 ∧ b.2.cps.toList ≤ a.2.cps.toList) := by
  unfold klt
  by_cases h1 : a.1 = b.1
  · by_cases h2 : a.2 = b.2
    · simp [h1, h2, List.le_refl]
    · simp only [h1, h2, if_true, if_false, decide_eq_false_iff_not, List.not_lt]
      constructor
      · intro h; right; exact ⟨by first | rfl | trivial, h⟩
      · rintro (h | h)
        · omega
        · exact h.2
  · simp only [h1, if_false, decide_eq_false_iff_not]
    constructor
    · intro h; left; omega
    · rintro (h | h)
      · omega
      · omega
theorem kge_trans {a b c : Key} (h : klt a b = false) (h' : klt b c = false) : klt a c = false := by
  rw [kge_iff] at *
  rcases h with h | ⟨h, k⟩ <;> rcases h' with h' | ⟨h', k'⟩
  · left; omega
  · left; omega
  · left; omega
  · right; exact ⟨by omega, List.le_trans k' k⟩
theorem klt_irrefl (a : Key) : klt a a = false := by simp [klt]
theorem swap_perm {es : List Elt} {p c : Nat} {q new : Elt} (hp : p < es.length) (hc : es[c]? = some q) (hne : c ≠ p) : ((es.set p q).set c new).Perm (es.set p new) := by
  have hcl := (List.getElem?_eq_some_iff.mp hc).1
  have := List.set_set_perm (as := es.set p new) (i := p) (j := c) (by simpa using hp) (by simpa using hcl)
  rw [List.getElem_set_ne (fun e => hne e.symm), List.getElem_set_self, List.set_set] at this
  rw [(List.getElem?_eq_some_iff.mp hc).2] at this
  exact this
theorem sd_perm (new : Elt) : ∀ (p : Nat) (es : List Elt), p < es.length → (sd new es p).Perm (es.set p new) := by
  intro p
  induction p using Nat.strongRecOn with
  | ind p ih =>
    intro es hp
    unfold sd
    by_cases h : 0 < p
    · rw [dif_pos h]
      obtain ⟨q, hq⟩ : ∃ q, es[(p - 1) / 2]? = some q := ⟨_, List.getElem?_eq_getElem (by omega)⟩
      rw [hq]
      dsimp only
      split
      · refine (ih ((p - 1) / 2) (by omega) (es.set p q) (by simp; omega)).trans ?_
        exact swap_perm hp hq (by omega)
      · exact .refl _
    · rw [dif_neg h]
/-- a heap but for the hole p -/
structure Hole (es : List Elt) (p : Nat) : Prop where
  a : ∀ (i : Nat) x y, 0 < i → i ≠ p → (i - 1) / 2 ≠ p → es[i]? = some x → es[(i - 1) / 2]? = some y → klt x.2 y.2 = false
  c : 0 < p → ∀ (i : Nat) x y, 0 < i → (i - 1) / 2 = p → es[i]? = some x → es[(p - 1) / 2]? = some y → klt x.2 y.2 = false
theorem sd_heapy (new : Elt) : ∀ (p : Nat) (es : List Elt), p < es.length → Hole es p → (∀ (i : Nat) x, 0 < i → (i - 1) / 2 = p → es[i]? = some x → klt x.2 new.2 = false) → Heapy (sd new es p) := by
  intro p
  induction p using Nat.strongRecOn with
  | ind p ih =>
    intro es hp H hb
    have fin : (0 < p → ∀ y, es[(p - 1) / 2]? = some y → klt new.2 y.2 = false) → Heapy (es.set p new) := by
      intro hpar i x y hi hx hy
      by_cases h1 : i = p
      · subst h1
        rw [List.getElem?_set_self hp] at hx
        rw [List.getElem?_set_ne (by omega)] at hy
        cases hx
        exact hpar hi y hy
      · rw [List.getElem?_set_ne (fun e => h1 e.symm)] at hx
        by_cases h2 : (i - 1) / 2 = p
        · rw [h2, List.getElem?_set_self hp] at hy
          cases hy
          exact hb i x hi h2 hx
        · rw [List.getElem?_set_ne (fun e => h2 e.symm)] at hy
          exact H.a i x y hi h1 h2 hx hy
    unfold sd
    by_cases h : 0 < p
    · rw [dif_pos h]
      obtain ⟨q, hq⟩ : ∃ q, es[(p - 1) / 2]? = some q := ⟨_, List.getElem?_eq_getElem (by omega)⟩
      rw [hq]
      dsimp only
      split
      · rename_i hlt
        have hppp : (p - 1) / 2 ≠ p := by omega
        refine ih ((p - 1) / 2) (by omega) (es.set p q) (by simp; omega) ⟨?_, ?_⟩ ?_
        · intro i x y hi h1 h2 hx hy
          by_cases h3 : i = p
          · subst h3; exact absurd rfl h2
          · rw [List.getElem?_set_ne (fun e => h3 e.symm)] at hx
            by_cases h4 : (i - 1) / 2 = p
            · rw [h4, List.getElem?_set_self hp] at hy
              cases hy
              exact H.c h i x q hi h4 hx hq
            · rw [List.getElem?_set_ne (fun e => h4 e.symm)] at hy
              exact H.a i x y hi h3 h4 hx hy
        · intro hpp i x y hi h1 hx hy
          rw [List.getElem?_set_ne (by omega)] at hy
          have hqy : klt q.2 y.2 = false := H.a ((p - 1) / 2) q y hpp hppp (by omega) hq hy
          by_cases h3 : i = p
          · subst h3
            rw [List.getElem?_set_self hp] at hx
            cases hx
            exact hqy
          · rw [List.getElem?_set_ne (fun e => h3 e.symm)] at hx
            exact kge_trans (H.a i x q hi h3 (by omega) hx (by rw [h1]; exact hq)) hqy
        · intro i x hi h1 hx
          have hqn := klt_asymm hlt
          by_cases h3 : i = p
          · subst h3
            rw [List.getElem?_set_self hp] at hx
            cases hx
            exact hqn
          · rw [List.getElem?_set_ne (fun e => h3 e.symm)] at hx
            exact kge_trans (H.a i x q hi h3 (by omega) hx (by rw [h1]; exact hq)) hqn
      · rename_i hlt
        exact fin fun _ y hy => by rw [hq] at hy; cases hy; simpa using hlt
    · rw [dif_neg h]
      exact fin fun h' => absurd h' h
theorem push_perm (new : Elt) (es : List Elt) : (sd new (es ++ [new]) es.length).Perm (new :: es) := by
  refine (sd_perm new es.length (es ++ [new]) (by simp)).trans ?_
  rw [List.set_append_right _ _ (Nat.le_refl _)]
  simp only [Nat.sub_self, List.set_cons_zero]
  exact List.perm_append_comm
theorem push_heapy (new : Elt) (es : List Elt) (h : Heapy es) : Heapy (sd new (es ++ [new]) es.length) := by
  have lt : ∀ {i : Nat} {x : Elt}, i ≠ es.length → (es ++ [new])[i]? = some x → i < es.length ∧ es[i]? = some x := by
    intro i x hn hx
    have := (List.getElem?_eq_some_iff.mp hx).1
    simp only [List.length_append, List.length_singleton] at this
    have h1 : i < es.length := by omega
    rw [List.getElem?_append_left h1] at hx
    exact ⟨h1, hx⟩
  refine sd_heapy new es.length (es ++ [new]) (by simp) ⟨?_, ?_⟩ ?_
  · intro i x y hi h1 h2 hx hy
    exact h i x y hi (lt h1 hx).2 (lt h2 hy).2
  · intro hp i x y hi h1 hx hy
    have := (List.getElem?_eq_some_iff.mp hx).1
    simp only [List.length_append, List.length_singleton] at this
    omega
  · intro i x hi h1 hx
    have := (List.getElem?_eq_some_iff.mp hx).1
    simp only [List.length_append, List.length_singleton] at this
    omega
abbrev repl (new : Elt) (es : List Elt) : List Elt := sd new ((su (es.set 0 new) 0).1.set (su (es.set 0 new) 0).2 new) (su (es.set 0 new) 0).2
theorem kid_min {es : List Elt} {p i : Nat} {q x : Elt} (hq : es[kid es (2 * p + 1)]? = some q) (hi : 0 < i) (hpar : (i - 1) / 2 = p) (hx : es[i]? = some x) : klt x.2 q.2 = false := by
  have hi' : i = 2 * p + 1 ∨ i = 2 * p + 1 + 1 := by omega
  unfold kid at hq
  cases h1 : es[2 * p + 1]? with
  | none =>
    have : 2 * p + 1 < es.length := by have := (List.getElem?_eq_some_iff.mp hx).1; omega
    rw [List.getElem?_eq_getElem this] at h1; cases h1
  | some u =>
    cases h2 : es[2 * p + 1 + 1]? with
    | none =>
      rw [h1, h2] at hq
      dsimp only at hq
      rw [h1] at hq; cases hq
      rcases hi' with rfl | rfl
      · rw [h1] at hx; cases hx; exact klt_irrefl _
      · rw [h2] at hx; cases hx
    | some v =>
      rw [h1, h2] at hq
      dsimp only at hq
      split at hq
      · rename_i hlt
        rw [h1] at hq; cases hq
        rcases hi' with rfl | rfl
        · rw [h1] at hx; cases hx; exact klt_irrefl _
        · rw [h2] at hx; cases hx; exact klt_asymm hlt
      · rename_i hlt
        rw [h2] at hq; cases hq
        rcases hi' with rfl | rfl
        · rw [h1] at hx; cases hx; simpa using hlt
        · rw [h2] at hx; cases hx; exact klt_irrefl _
theorem su_all (new : Elt) : ∀ (d p : Nat) (es : List Elt), es.length - p ≤ d → p < es.length → Hole es p →
    (su es p).2 < (su es p).1.length ∧ Hole (su es p).1 (su es p).2 ∧ ¬ 2 * (su es p).2 + 1 < (su es p).1.length ∧ ((su es p).1.set (su es p).2 new).Perm (es.set p new) := by
  intro d
  induction d with
  | zero => intro p es h1 h2; omega
  | succ d ih =>
    intro p es hd hp H
    unfold su
    by_cases h : 2 * p + 1 < es.length
    · rw [dif_pos h]
      have hk := kid_le (es := es) (c := 2 * p + 1)
      have hkl := kid_lt h
      obtain ⟨q, hq⟩ : ∃ q, es[kid es (2 * p + 1)]? = some q := ⟨_, List.getElem?_eq_getElem hkl⟩
      rw [hq]
      dsimp only
      have hkp : (kid es (2 * p + 1) - 1) / 2 = p := by omega
      have key := @kid_min es p
      generalize hc : kid es (2 * p + 1) = c at *
      have HH : Hole (es.set p q) c := by
        refine ⟨?_, ?_⟩
        · intro i x y hi h1 h2 hx hy
          by_cases h3 : i = p
          · subst h3
            rw [List.getElem?_set_self hp] at hx
            cases hx
            rw [List.getElem?_set_ne (by omega)] at hy
            exact H.c hi c q y (by omega) hkp hq hy
          · rw [List.getElem?_set_ne (fun e => h3 e.symm)] at hx
            by_cases h4 : (i - 1) / 2 = p
            · rw [h4, List.getElem?_set_self hp] at hy
              cases hy
              exact key hq hi h4 hx
            · rw [List.getElem?_set_ne (fun e => h4 e.symm)] at hy
              exact H.a i x y hi h3 h4 hx hy
        · intro hc0 i x y hi h1 hx hy
          rw [hkp, List.getElem?_set_self hp] at hy
          cases hy
          rw [List.getElem?_set_ne (by omega)] at hx
          exact H.a i x q hi (by omega) (by omega) hx (by rw [h1]; exact hq)
      obtain ⟨r1, r2, r3, r4⟩ := ih c (es.set p q) (by simp; omega) (by simp; omega) HH
      exact ⟨r1, r2, r3, r4.trans (swap_perm hp hq (by omega))⟩
    · rw [dif_neg h]
      exact ⟨hp, H, h, .refl _⟩
theorem hole0 {es : List Elt} {new : Elt} (h : Heapy es) : Hole (es.set 0 new) 0 := by
  refine ⟨fun i x y hi h1 h2 hx hy => ?_, fun h => absurd h (by omega)⟩
  rw [List.getElem?_set_ne (by omega)] at hx
  rw [List.getElem?_set_ne (by omega)] at hy
  exact h i x y hi hx hy
theorem repl_both (new top : Elt) (es : List Elt) (ht : es[0]? = some top) : (Heapy es → Heapy (repl new es)) ∧ (Heapy es → (top :: repl new es).Perm (new :: es)) := by
  have h0 : 0 < (es.set 0 new).length := by simpa using (List.getElem?_eq_some_iff.mp ht).1
  refine ⟨fun h => ?_, fun h => ?_⟩
  · obtain ⟨r1, r2, r3, r4⟩ := su_all new _ 0 (es.set 0 new) (Nat.le_refl _) h0 (hole0 h)
    refine sd_heapy new _ _ (by simpa using r1) ⟨?_, ?_⟩ ?_
    · intro i x y hi h1 h2 hx hy
      rw [List.getElem?_set_ne (fun e => h1 e.symm)] at hx
      rw [List.getElem?_set_ne (fun e => h2 e.symm)] at hy
      exact r2.a i x y hi h1 h2 hx hy
    · intro hp i x y hi h1 hx hy
      have := (List.getElem?_eq_some_iff.mp hx).1
      rw [List.length_set] at this
      omega
    · intro i x hi h1 hx
      have := (List.getElem?_eq_some_iff.mp hx).1
      rw [List.length_set] at this
      omega
  · obtain ⟨r1, r2, r3, r4⟩ := su_all new _ 0 (es.set 0 new) (Nat.le_refl _) h0 (hole0 h)
    have p1 := sd_perm new (su (es.set 0 new) 0).2 ((su (es.set 0 new) 0).1.set (su (es.set 0 new) 0).2 new) (by simpa using r1)
    rw [List.set_set] at p1
    have p2 := p1.trans r4
    rw [List.set_set] at p2
    cases es with
    | nil => simp at ht
    | cons a r =>
      simp at ht
      subst ht
      exact (p2.cons a).trans (List.Perm.swap _ _ _)
theorem repl_perm (new top : Elt) (es : List Elt) (h : Heapy es) (ht : es[0]? = some top) : (top :: repl new es).Perm (new :: es) := (repl_both new top es ht).2 h
theorem repl_heapy (new top : Elt) (es : List Elt) (h : Heapy es) (ht : es[0]? = some top) : Heapy (repl new es) := (repl_both new top es ht).1 h
theorem top_min (top : Elt) (es : List Elt) (h : Heapy es) (ht : es[0]? = some top) : ∀ e ∈ es, klt e.2 top.2 = false := by
  have key : ∀ (i : Nat) (e : Elt), es[i]? = some e → klt e.2 top.2 = false := by
    intro i
    induction i using Nat.strongRecOn with
    | ind i ih =>
      intro e he
      by_cases hi : 0 < i
      · have hl := (List.getElem?_eq_some_iff.mp he).1
        obtain ⟨y, hy⟩ : ∃ y, es[(i - 1) / 2]? = some y := ⟨_, List.getElem?_eq_getElem (by omega)⟩
        exact kge_trans (h i e y hi he hy) (ih ((i - 1) / 2) (by omega) y hy)
      · have : i = 0 := by omega
        subst this
        rw [ht] at he; cases he
        exact klt_irrefl _
  intro e m
  obtain ⟨i, hi⟩ := List.getElem?_of_mem m
  exact key i e hi
section
variable {w : World} {A : Around} {E : Value → Shared → Prop} {s₀ s : Shared} {g : Heap} {L : Addr} {ns : List Str} {vs : List (Option Value)} {nw nw' : List (Addr × Pd)} {env : Env}
theorem ST.move5 {p a b c d e : Addr × Pd} (S : ST s₀ g L ns vs (p :: a :: b :: c :: d :: e :: nw) s) : ST s₀ g L ns vs (a :: b :: c :: d :: e :: p :: nw) s := by
  have q : (a :: b :: c :: d :: e :: p :: nw).Perm (p :: a :: b :: c :: d :: e :: nw) := List.perm_middle (l₁ := [a, b, c, d, e])
  exact S.weak (fun r hr => q.subset hr) ((q.map _).nodup_iff.mpr S.nd)
theorem ST.imp {a : Addr} {P P' : Pd} (S : ST s₀ g L ns vs ((a, P) :: nw) s) (i : ∀ o, P o → P' o) : ST s₀ g L ns vs ((a, P') :: nw) s :=
  ⟨S.loc, S.nsd, S.keep, S.off, S.above, fun p hp => by
    rcases List.mem_cons.mp hp with rfl | hp
    · exact ⟨(S.led _ (.head _)).1.imp i, (S.led _ (.head _)).2⟩
    · exact S.led p (.tail _ hp), S.nd, S.same⟩
theorem latest_spec {nl kl : Addr} {b : Heap} {ks : List Int} {nn : List Str} {kv nv : List Value} {room : Nat} {t : Tok} {Q : Value → Shared → Prop} (W : Wld w b) (hb : ∀ a o, b.get? a = some o → s.heap.get? a = some o) (ok : Ok A 5)
    (hn : At s.heap nl (isL nv.toArray)) (hns : Strs nv nn) (hnm : ∀ x ∈ nn, Nm x) (hl : At s.heap kl (isL kv.toArray)) (hs : IntsAre kv ks) (hz : nn.length < 900) (hkn : ks.length = nn.length) (hr : 1 ≤ room)
    (h : ∀ s' r m q hs u u', Same s s' → Keeps [] s.heap s'.heap → Bel ks nn room nn.length m q hs → At s'.heap r (isT #[.int m u, .int q.length u']) → Q (.ref r) s') :
    wpAny (model PR w) A (call (.ref 252) [.ref nl, .ref kl, .int room t]) Q E s := by
  refine wpAny_call ?_
  refine enterC [(Str.ofString "names", .ref nl), (Str.ofString "kinds", .ref kl), (Str.ofString "room", .int room t)] [Str.ofString "names", Str.ofString "room", Str.ofString "table", Str.ofString "heap", Str.ofString "missed", Str.ofString "later", Str.ofString "item"]
    [some (.ref nl), some (.int room t), none, none, none, none, none] (fun L => [(Str.ofString "i", L + 1 + 1), (Str.ofString "kinds", L + 1)]) (fun L => [(L + 1 + 1, isC none), (L + 1, isC (some (.ref kl)))]) []
    W hb (by simp) (by simp) rfl rfl ok.room rfl ?_ (by decide +kernel) ?_ ?_ ?_ ?_ ?_
  · exact kindsX rfl
  · intro L
    walk_at "m.hvs"
  · exact fun L => rfl
  · exact fun L => rfl
  · intro L; show [Str.ofString "i", Str.ofString "kinds"].Nodup; decide +kernel
  intro g L s1 hbg hsg hgs Wg S
  simp only [List.cons_append, List.nil_append] at S
  have hlg : At g kl (isL kv.toArray) := (hl.into hsg (by simp))
  have hng : At g nl (isL nv.toArray) := (hn.into hsg (by simp))
  have hlen := hs.length
  have hlen2 := hns.1
  walk_at "m.go"
  refine r_Headers Wg (by assumption) (ok.deeper.mono (by decide)) ?_
  intro x dx l s2 S2
  walk_at "m.go"
  refine r_len (by assumption) (ST.old (by assumption) hng) (by simp only [List.size_toArray]; omega) ?_
  intro t2 s3 S3
  rename_i hp _ _ _ _ _ _ _ _ _
  have hsz : ((nv.toArray.size : Nat) : Int) = (nn.length : Int) := by simp [hlen2]
  rw [hsz]
  walk_at "m.go"
  refine r_range1 (by assumption) ?_
  intro rg s4 S4
  have S5 := S4.weak (nw' := (L + 1 + 1, isC none) :: (L + 1, isC (some (.ref kl))) :: (hp, isLx (refs [])) :: (rg, isRg 0 nn.length 1) :: (([] : List Elt).map (fun e => (e.1, isK e.2)) ++ tled l x dx [])) (by intro p hp; simp [tled] at hp ⊢; grind) (by have := S4.nd; simp [tled] at this ⊢; grind)
  clear S4
  refine r_for_rangeN (r := rg) (n := nn.length) ok.hh (fun i vs nw => ∃ es hes all m o x1 x2 ci, nw = (L + 1 + 1, isC ci) :: (L + 1, isC (some (.ref kl))) :: (hp, isLx (refs hes)) :: (rg, isRg 0 nn.length 1) :: (all.map (fun e : Elt => (e.1, isK e.2)) ++ tled l x dx es) ∧
      vs = [some (.ref nl), some (.int room t), some (.ref x), some (.ref hp), o, x1, x2] ∧ isI m o ∧ Bel ks nn room i m (es.map (·.2)) (hes.map (·.2)) ∧ Heapy hes ∧ (∀ e ∈ es, Nm e.2) ∧ es.length ≤ i ∧ (∀ e ∈ hes, e ∈ all ∧ Nm e.2.2) ∧ hes.length ≤ i ∧ (0 < i → hes ≠ [])) (fun _ _ => False) S5 (S5.new (by walk_at "m.mem")) (small_up hz) (size_up _)
    ⟨[], [], [], 0, _, _, _, _, rfl, rfl, isI.mk rfl, .zero, by intro i a b _ h; simp at h, by simp, by simp, by simp, by simp, by omega⟩ ?_ ?_
  · rintro I i t4 vs nw P0 s6 QQ hQQ hi ⟨es, hes, all, m, _, x1, x2, ci, rfl, rfl, ⟨u, rfl⟩, hB, hH, he, hle, hhe, hhl, hne⟩ S6
    rw [show (0 : Int) + 1 * (i : Int) = i by omega]
    have hki := getD_some (ks := ks) (i := i) (by omega)
    have hni := getDS_some (ks := nn) (i := i) (by omega)
    have hnm' : Nm (nn.getD i default) := hnm _ (List.mem_of_getElem? hni)
    walk_at "m.go"
    refine r_len (by assumption) (ST.old (by assumption) hng) (by simp only [List.size_toArray]; omega) ?_
    intro t7 s7 S7
    rw [hsz]
    walk_at "m.go"
    refine r_range2 (by assumption) ?_
    intro rg2 s8 S8
    have hkl8 := S8.old hlg
    have hcK := S8.new (a := L + 1) (P := isC (some (.ref kl))) (by walk_at "m.mem")
    have hcI := S8.new (a := L + 1 + 1) (P := isC (some (.int i t4))) (by walk_at "m.mem")
    refine compAt (starts_range (n := nn.length - (i + 1)) ok.hh (S8.new (.head _)) (small_1 (by omega) (by omega) (by omega)) (by rw [size_1 (by omega)]; omega)) (fun k ys => IntsAre ys (lats ks i k)) [Str.ofString "j"] [none] S8 (fun _ _ => trivial) ?_ ?_ .nil (by omega) (by decide +kernel) (by intro x v q; cases q with | tail q => cases q) (by decide +kernel) rfl
    · repeat (rename ST _ _ _ _ _ _ _ => hST; clear hST)
      have hcc := And.intro hcK hcI
      clear hcK hcI
      rintro C Ic acc k v ys P1 s9 hk ⟨tv, rfl⟩ K9 S9
      iterate 5 (first | walk1 | (dsimp only; walk1))
      refine r_cell (c := L + 1) (ST.old (by assumption) hcc.1) (by kernel_rfl!) ?_ (by kernel_rfl!) (by walk_at "m.kind") (by decide +kernel) (by decide +kernel)
      iterate 1 (first | walk1 | (dsimp only; walk1))
      refine r_inti (v := ks.getD (i + 1 + k) 0) (ST.old (by assumption) hkl8) hs (by omega) (by omega) (by rw [show ((i : Int) + 1 + 1 * (k : Int)).toNat = i + 1 + k by omega]; exact getD_some (by omega)) ?_
      intro ta
      iterate 1 (first | walk1 | (dsimp only; walk1))
      refine r_cell (c := L + 1) (ST.old (by assumption) hcc.1) (by kernel_rfl!) ?_ (by kernel_rfl!) (by walk_at "m.kind") (by decide +kernel) (by decide +kernel)
      refine r_cell (c := L + 1 + 1) (ST.old (by assumption) hcc.2) (by kernel_rfl!) ?_ (by kernel_rfl!) (by walk_at "m.kind") (by decide +kernel) (by decide +kernel)
      refine r_inti (v := ks.getD i 0) (ST.old (by assumption) hkl8) hs (by omega) (by omega) hki ?_
      intro tb
      have hlk : lats ks i (k + 1) = if ks.getD (i + 1 + k) 0 = ks.getD i 0 then lats ks i k ++ [((i + 1 + k : Nat) : Int)] else lats ks i k := by
        rw [lats, List.range_succ, List.map_append, List.filter_append, ← lats, List.map_cons, List.map_nil, List.filter_cons, List.filter_nil, Int.toNat_natCast]
        by_cases q : ks.getD (i + 1 + k) 0 = ks.getD i 0
        · rw [if_pos (decide_eq_true q), if_pos q]
        · rw [if_neg (by rw [decide_eq_true_eq]; exact q), if_neg q, List.append_nil]
      walk_at "m.go"
      · rename_i hq
        have hq' : ks.getD (i + 1 + k) 0 = ks.getD i 0 := by simpa using hq
        refine ⟨⟨_, by assumption⟩, ?_⟩
        rw [hlk, if_pos hq', show ((i + 1 + k : Nat) : Int) = (i : Int) + 1 + 1 * (k : Int) by omega]
        exact K9.append (intsOne _ _)
      · rename_i hq
        have hq' : ¬ ks.getD (i + 1 + k) 0 = ks.getD i 0 := by simpa using hq
        refine ⟨⟨_, by assumption⟩, ?_⟩
        rw [hlk, if_neg hq']
        exact K9
    · intro C acc ys s9 K9 S9
      refine comp_done S9 ?_
      intro sA SA
      walk_at "m.go"
      refine r_len (by assumption) (ST.old (by assumption) hng) (by simp only [List.size_toArray]; omega) ?_
      intro tB sB SB
      rw [hsz]
      walk_at "m.go"
      have hyl := K9.length
      have hyl2 : (lats ks i (nn.length - (i + 1))).length ≤ nn.length := by
        have := List.length_filter_le (fun j : Int => decide (ks.getD j.toNat 0 = ks.getD i 0)) ((List.range (nn.length - (i + 1))).map fun d => ((i + 1 + d : Nat) : Int))
        rw [List.length_map, List.length_range] at this
        unfold lats; omega
      refine r_addlists (xs := ys) (by assumption) (ST.new (by assumption) (.tail _ (.head _))).weak (ST.new (by assumption) (.head _)).weak (by simp only [List.length_cons, List.length_nil]; omega) ?_
      intro la sC SC
      have hlat := K9.append (intsOne nn.length tB)
      walk_at "m.go"
      rename_i SD
      refine r_inti (v := nxt ks nn.length i) (SD.new (.head _)).weak hlat (by omega) (by omega) ?_ ?_
      · have hpos : (lats ks i (nn.length - (i + 1)) ++ [(nn.length : Int)]) ≠ [] := by simp
        rw [nxt]
        cases q : (lats ks i (nn.length - (i + 1)) ++ [(nn.length : Int)]) with
        | nil => exact absurd q hpos
        | cons a r => rfl
      intro tE
      have SE := SD.tail.tail.tail.tail
      clear SD SC SB SA S9 S8 S7 S6
      walk_at "m.go"
      refine r_stri (ST.old (by assumption) hng) hns (by omega) (by omega) hni ?_
      intro tF
      walk_at "m.go"
      rename_i it sG SG _ sH SH
      have SI : ST s g L _ _ ((I, P0) :: (L + 1 + 1, isC (some (.int i t4))) :: (L + 1, isC (some (.ref kl))) :: (hp, isLx (refs hes)) :: (rg, isRg 0 nn.length 1) :: (((it, bkey ks nn i) :: all).map (fun e : Elt => (e.1, isK e.2)) ++ tled l x dx es)) sH :=
        (SH.imp (P' := isK (bkey ks nn i)) (fun o ho => ⟨_, _, ho⟩)).move5
      clear SG SH SE
      refine r_stri (ST.old (by assumption) hng) hns (by omega) (by omega) hni ?_
      intro tJ
      walk_at "m.go"
      have sub : ∀ hs : List Elt, ∀ p ∈ tled l x dx es, p ∈ (I, P0) :: (L + 1 + 1, isC (some (.int i t4))) :: (L + 1, isC (some (.ref kl))) :: (hp, isLx (refs hs)) :: (rg, isRg 0 nn.length 1) :: (((it, bkey ks nn i) :: all).map (fun e : Elt => (e.1, isK e.2)) ++ tled l x dx es) :=
        fun hs p h => .tail _ (.tail _ (.tail _ (.tail _ (.tail _ (List.mem_append_right _ h)))))
      have hall : ∀ hs : List Elt, ∀ e ∈ (it, bkey ks nn i) :: all, (e.1, isK e.2) ∈ (I, P0) :: (L + 1 + 1, isC (some (.int i t4))) :: (L + 1, isC (some (.ref kl))) :: (hp, isLx (refs hs)) :: (rg, isRg 0 nn.length 1) :: (((it, bkey ks nn i) :: all).map (fun e : Elt => (e.1, isK e.2)) ++ tled l x dx es) :=
        fun hs e m => .tail _ (.tail _ (.tail _ (.tail _ (.tail _ (List.mem_append_left _ (List.mem_map.mpr ⟨e, m, rfl⟩))))))
      have hheap : ∀ {s' : Shared}, ∀ e ∈ hes, e ∈ (it, bkey ks nn i) :: all := fun e m => .tail _ (hhe e m).1
      have hpush := push_perm (it, bkey ks nn i) hes
      have hpush2 : (∀ e ∈ sd (it, bkey ks nn i) (hes ++ [(it, bkey ks nn i)]) hes.length, e ∈ (it, bkey ks nn i) :: all ∧ Nm e.2.2) := by
        intro e m
        rcases List.mem_cons.mp (hpush.subset m) with rfl | m
        · exact ⟨.head _, hnm'⟩
        · exact ⟨.tail _ (hhe e m).1, (hhe e m).2⟩
      refine t_in Wg (ok.deeper.mono (by decide)) SI (sub _) he hnm' ?_ ?_
      · intro sK SK hq
        walk_at "m.go"
        refine heappush_spec (new := (it, bkey ks nn i)) Wg SK.keep (SK.led (hp, isLx (refs hes)) (by walk_at "m.mem")).2.1 (ok.deeper.mono (by decide)) (SK.new (by walk_at "m.mem")) (fun e m => SK.new (hall _ e (.tail _ (hhe e m).1))) (SK.new (hall _ _ (.head _))) (by omega) ?_
        intro sM eM kM hM
        have SM := SK.call1 (.tail (.tail (.tail .head))) eM kM hM
        walk_at "m.go"
        refine hQQ _ _ ⟨_, _, SM, es, _, _, m, _, _, _, _, rfl, rfl, isI.mk rfl, .hit hB hq (hpush.map _), push_heapy _ _ hH, he, by omega, hpush2, ?_, ?_⟩
        · rw [hpush.length_eq, List.length_cons]; omega
        · intro _ q; rw [q] at hpush; exact absurd hpush.length_eq (by simp)
      · intro sK SK hq
        walk_at "m.go"
        rename_i SN
        refine t_len Wg (ok.deeper.mono (by decide)) SN (sub _) (by omega) ?_
        intro tO sO SO
        walk_at "m.go"
        · rename_i hlt
          refine heappush_spec (new := (it, bkey ks nn i)) Wg SO.keep (SO.led (hp, isLx (refs hes)) (by walk_at "m.mem")).2.1 (ok.deeper.mono (by decide)) (SO.new (by walk_at "m.mem")) (fun e m => SO.new (hall _ e (.tail _ (hhe e m).1))) (SO.new (hall _ _ (.head _))) (by omega) ?_
          intro sM eM kM hM
          have SM := SO.call1 (.tail (.tail (.tail .head))) eM kM hM
          clear SO SN SK SI
          walk_at "m.go"
          refine r_stri (ST.old (by assumption) hng) hns (by omega) (by omega) hni ?_
          intro tP
          walk_at "m.go"
          refine t_set ((I, P0) :: (L + 1 + 1, isC (some (.int i t4))) :: (L + 1, isC (some (.ref kl))) :: (hp, isLx (refs (sd (it, bkey ks nn i) (hes ++ [(it, bkey ks nn i)]) hes.length))) :: (rg, isRg 0 nn.length 1) :: ((it, bkey ks nn i) :: all).map (fun e : Elt => (e.1, isK e.2))) Wg (ok.deeper.mono (by decide)) (by assumption) he hnm' (by omega) ?_
          intro p sR SR
          walk_at "m.go"
          refine hQQ _ _ ⟨_, _, SR, _, _, _, _, _, _, _, _, rfl, rfl, isI.mk rfl, ?_, push_heapy _ _ hH, nmNew he hnm', ?_, hpush2, ?_, ?_⟩
          · rw [List.map_append, drop_map]
            exact .room hB hq (by rw [List.length_map]; omega) (hpush.map _)
          · have := List.length_filter_le (fun e : Ent => decide (low e.2 ≠ low (nn.getD i default))) es
            simp only [List.length_append, List.length_cons, List.length_nil]; omega
          · rw [hpush.length_eq, List.length_cons]; omega
          · intro _ q; rw [q] at hpush; exact absurd hpush.length_eq (by simp)
        · rename_i hlt
          walk_at "m.go"
          have hip : 0 < i := by omega
          obtain ⟨top, htop⟩ : ∃ top, hes[0]? = some top := by
            cases q : hes with
            | nil => exact absurd q (hne hip)
            | cons a r => exact ⟨a, rfl⟩
          have hrp := repl_perm (it, bkey ks nn i) top hes hH htop
          have htm : top ∈ hes := List.mem_of_getElem? htop
          have hrp2 : ∀ e ∈ repl (it, bkey ks nn i) hes, e ∈ (it, bkey ks nn i) :: all ∧ Nm e.2.2 := by
            intro e m
            rcases List.mem_cons.mp (hrp.subset (.tail _ m)) with rfl | m
            · exact ⟨.head _, hnm'⟩
            · exact ⟨.tail _ (hhe e m).1, (hhe e m).2⟩
          refine heapreplace_spec (new := (it, bkey ks nn i)) Wg SO.keep (SO.led (hp, isLx (refs hes)) (by walk_at "m.mem")).2.1 (ok.deeper.mono (by decide)) (SO.new (by walk_at "m.mem")) (fun e m => SO.new (hall _ e (.tail _ (hhe e m).1))) (SO.new (hall _ _ (.head _))) htop (by omega) ?_
          intro sM eM kM hM
          have SM := SO.call1 (.tail (.tail (.tail .head))) eM kM hM
          clear SO SN SK SI
          walk_at "m.go"
          rename_i SM2
          obtain ⟨oT, hoT, t1, t2', hT⟩ := SM2.new (hall _ top (.tail _ (hhe top htm).1))
          refine r_titem (v := .str top.2.2 t2') ⟨oT, hoT, hT⟩ (by omega) (by omega) rfl ?_
          walk_at "m.go"
          refine t_del ((I, P0) :: (L + 1 + 1, isC (some (.int i t4))) :: (L + 1, isC (some (.ref kl))) :: (hp, isLx (refs (repl (it, bkey ks nn i) hes))) :: (rg, isRg 0 nn.length 1) :: ((it, bkey ks nn i) :: all).map (fun e : Elt => (e.1, isK e.2))) Wg (ok.deeper.mono (by decide)) SM2 he (hhe top htm).2 (by omega) ?_
          intro sD SD
          clear SM2 SM
          have he' : ∀ e ∈ es.filter (fun e => decide (low e.2 ≠ low top.2.2)), Nm e.2 := fun e m => he e (List.mem_filter.mp m).1
          have hle' := List.length_filter_le (fun e : Ent => decide (low e.2 ≠ low top.2.2)) es
          simp only [List.cons_append] at SD
          walk_at "m.go"
          refine r_stri (ST.old (by assumption) hng) hns (by omega) (by omega) hni ?_
          intro tP
          walk_at "m.go"
          refine t_set ((I, P0) :: (L + 1 + 1, isC (some (.int i t4))) :: (L + 1, isC (some (.ref kl))) :: (hp, isLx (refs (repl (it, bkey ks nn i) hes))) :: (rg, isRg 0 nn.length 1) :: ((it, bkey ks nn i) :: all).map (fun e : Elt => (e.1, isK e.2))) Wg (ok.deeper.mono (by decide)) (by assumption) he' hnm' (by omega) ?_
          intro p sR SR
          walk_at "m.go"
          refine hQQ _ _ ⟨_, _, SR, _, _, _, _, _, _, _, _, rfl, rfl, isI.mk rfl, ?_, repl_heapy _ _ _ hH htop, nmNew he' hnm', ?_, hrp2, ?_, ?_⟩
          · rw [List.map_append, drop_map, drop_map]
            exact .full hB hq (by rw [List.length_map]; omega) (hrp.map _) (List.mem_map.mpr ⟨top, htm, rfl⟩) (fun k hk => by obtain ⟨e, m, rfl⟩ := List.mem_map.mp hk; exact top_min top hes hH htop e m)
          · have := List.length_filter_le (fun e : Ent => decide (low e.2 ≠ low (nn.getD i default))) (es.filter (fun e => decide (low e.2 ≠ low top.2.2)))
            simp only [List.length_append, List.length_cons, List.length_nil]; omega
          · have := hrp.length_eq; simp only [List.length_cons] at this; omega
          · intro _ q; have := hrp.length_eq; rw [q] at this; simp only [List.length_cons, List.length_nil] at this
            have := (hne hip); cases hes with | nil => exact this rfl | cons a r => simp at *
  · rintro vs nw s6 (⟨es, hes, all, m, _, x1, x2, ci, rfl, rfl, ⟨u, rfl⟩, hB, hH, he, hle, hhe, hhl, hne⟩ | hf) S6
    · walk_at "m.go"
      refine t_len Wg (ok.deeper.mono (by decide)) (es := es) (dx := dx) (l := l) S6 (fun p hp => .tail _ (.tail _ (.tail _ (.tail _ (List.mem_append_right _ hp))))) (by omega) ?_
      intro t7 s7 S7
      walk_at "m.go"
      rename_i rt s8 S8 _
      exact h _ rt m _ _ u t7 S8.same (S8.keeps hsg) hB (by rw [List.length_map]; exact S8.new (.head _))
    · exact hf.elim
end
/-- an asking: kind and name -/
abbrev Ask := Int × Str
/-- the last askings of the kinds, the latest first (of a list with the latest first) -/
def D : List Ask → List Ask
  | [] => []
  | x :: r => x :: (D r).filter fun y => decide (y.1 ≠ x.1)
abbrev kindsOf (l : List Ask) : List Int := l.map (·.1)
theorem D_sub : ∀ (l : List Ask) (y : Ask), y ∈ D l → y ∈ l
  | [], y, h => by simp [D] at h
  | x :: r, y, h => by
    rw [D] at h
    rcases List.mem_cons.mp h with h | h
    · exact h ▸ .head _
    · exact .tail _ (D_sub r y (List.mem_filter.mp h).1)
theorem kinds_filter (l : List Ask) (k : Int) : kindsOf (l.filter fun y => decide (y.1 ≠ k)) = (kindsOf l).filter fun j => decide (j ≠ k) := by
  rw [kindsOf, kindsOf, List.filter_map]; rfl
theorem D_kinds : ∀ (l : List Ask) (k : Int), k ∈ kindsOf (D l) ↔ k ∈ kindsOf l
  | [], k => by simp [D]
  | x :: r, k => by
    have ih := D_kinds r k
    rw [D, kindsOf, List.map_cons, ← kindsOf, kinds_filter, kindsOf, kindsOf, List.map_cons, List.mem_cons, List.mem_cons, List.mem_filter, ih]
    by_cases h : k = x.1 <;> simp [h]
theorem D_nodup : ∀ (l : List Ask), (kindsOf (D l)).Nodup
  | [] => by simp [D]
  | x :: r => by
    rw [D, kindsOf, List.map_cons, ← kindsOf, kinds_filter, List.nodup_cons]
    refine ⟨fun h => ?_, (D_nodup r).filter _⟩
    simp at h
theorem D_snoc : ∀ (l : List Ask) (y : Ask), D (l ++ [y]) = if y.1 ∈ kindsOf (D l) then D l else D l ++ [y]
  | [], y => by simp [D]
  | x :: l, y => by
    have ih := D_snoc l y
    rw [List.cons_append, D, ih, D]
    have e : y.1 ∈ kindsOf (x :: (D l).filter fun z => decide (z.1 ≠ x.1)) ↔ y.1 = x.1 ∨ y.1 ∈ kindsOf (D l) := by
      rw [kindsOf, List.map_cons, ← kindsOf, kinds_filter, List.mem_cons, List.mem_filter]
      by_cases h : y.1 = x.1 <;> simp [h]
    by_cases h : y.1 ∈ kindsOf (D l)
    · rw [if_pos h, if_pos (e.mpr (.inr h))]
    · rw [if_neg h, List.filter_append]
      by_cases h' : y.1 = x.1
      · rw [if_pos (e.mpr (.inl h'))]; simp [h']
      · rw [if_neg (fun q => by rcases e.mp q with q | q; exact h' q; exact h q)]; simp [h']
theorem takeWhile_filter (k j : Int) (h : j ≠ k) : ∀ l : List Int, (l.filter fun y => decide (y ≠ j)).takeWhile (fun y => decide (y ≠ k)) = (l.takeWhile fun y => decide (y ≠ k)).filter fun y => decide (y ≠ j)
  | [] => rfl
  | x :: l => by
    have ih := takeWhile_filter k j h l
    by_cases h1 : x = j
    · subst h1
      rw [List.filter_cons_of_neg (by simp), List.takeWhile_cons_of_pos (by simpa using h), List.filter_cons_of_neg (by simp)]
      exact ih
    · rw [List.filter_cons_of_pos (by simpa using h1)]
      by_cases h2 : x = k
      · subst h2; simp
      · rw [List.takeWhile_cons_of_pos (by simpa using h2), List.takeWhile_cons_of_pos (by simpa using h2), List.filter_cons_of_pos (by simpa using h1), ih]
theorem mem_take_iff (k : Int) : ∀ (l : List Int) (r : Nat), k ∈ l.take r ↔ k ∈ l ∧ (l.takeWhile fun y => decide (y ≠ k)).length < r
  | [], r => by simp
  | x :: l, 0 => by simp
  | x :: l, r + 1 => by
    have ih := mem_take_iff k l r
    rw [List.take_succ_cons, List.mem_cons, List.mem_cons, ih]
    by_cases h : k = x
    · subst h; simp
    · rw [List.takeWhile_cons_of_pos (by simpa using fun e => h e.symm), List.length_cons]
      simp [h]
/-- the first i askings, the latest first -/
abbrev Pre (xs : List Ask) (i : Nat) : List Ask := (xs.take i).reverse
theorem Pre_succ {xs : List Ask} {i : Nat} {x : Ask} (h : xs[i]? = some x) : Pre xs (i + 1) = x :: Pre xs i := by
  rw [Pre, List.take_add_one, h, Option.toList_some, List.reverse_append]; rfl
theorem D_zero (xs : List Ask) : D (Pre xs 0) = [] := by rw [Pre, List.take_zero, List.reverse_nil, D]
theorem zip_get {ks : List Int} {nn : List Str} {i : Nat} (h : i < ks.length) (e : ks.length = nn.length) : (ks.zip nn)[i]? = some (ks.getD i 0, nn.getD i default) := by
  rw [List.getElem?_zip_eq_some]
  exact ⟨getD_some h, getDS_some (by omega)⟩
theorem back_spec (ks : List Int) (nn : List Str) (e : ks.length = nn.length) (k : Int) : ∀ (n : Nat) (bt : List Int), n ≤ ks.length →
    (back ks k n bt).2 = bt ++ ((kindsOf (D (Pre (ks.zip nn) n))).takeWhile fun y => decide (y ≠ k)).filter (fun y => decide (y ∉ bt)) ∧ ((back ks k n bt).1 = 0 ↔ k ∉ kindsOf (D (Pre (ks.zip nn) n)))
  | 0, bt, _ => by rw [D_zero]; simp [back]
  | n + 1, bt, h => by
    have hx := zip_get (ks := ks) (nn := nn) (i := n) (by omega) e
    rw [Pre_succ hx, back, D, kindsOf, List.map_cons, ← kindsOf, kinds_filter]
    dsimp only
    by_cases h1 : ks.getD n 0 = k
    · rw [if_pos h1, h1]; simp
    · rw [if_neg h1, List.takeWhile_cons_of_pos (by simpa using h1), takeWhile_filter _ _ h1]
      have m : k ∉ ks.getD n 0 :: (kindsOf (D (Pre (ks.zip nn) n))).filter (fun j => decide (j ≠ ks.getD n 0)) ↔ k ∉ kindsOf (D (Pre (ks.zip nn) n)) := by
        rw [List.mem_cons, List.mem_filter]
        have h1' : ¬ k = ks.getD n 0 := fun e => h1 e.symm
        simp only [h1', false_or, ne_eq, not_false_eq_true, decide_true, and_true]
      rw [m]
      by_cases h2 : ks.getD n 0 ∈ bt
      · rw [if_pos h2]
        obtain ⟨i1, i2⟩ := back_spec ks nn e k n bt (by omega)
        refine ⟨?_, i2⟩
        rw [i1, List.filter_cons_of_neg (by simpa using h2), List.filter_filter]
        congr 1
        apply List.filter_congr
        intro x _
        by_cases hx : x ∈ bt
        · simp [hx]
        · have : x ≠ ks.getD n 0 := fun e => hx (e ▸ h2)
          simp only [ne_eq, this, not_false_eq_true, decide_true, Bool.and_true]
      · rw [if_neg h2]
        obtain ⟨i1, i2⟩ := back_spec ks nn e k n (bt ++ [ks.getD n 0]) (by omega)
        refine ⟨?_, i2⟩
        rw [i1, List.filter_cons_of_pos (by simpa using h2), List.filter_filter, List.append_assoc, List.singleton_append]
        congr 2
        apply List.filter_congr
        intro x _
        rw [Bool.eq_iff_iff]
        simp only [List.mem_append, List.mem_singleton, not_or, ne_eq, decide_not, Bool.and_eq_true, Bool.not_eq_true', decide_eq_true_eq, decide_eq_false_iff_not]
theorem lbMiss_iff (ks : List Int) (nn : List Str) (e : ks.length = nn.length) (r i : Nat) (h : i < ks.length) : lbMiss ks r i ↔ ks.getD i 0 ∉ (kindsOf (D (Pre (ks.zip nn) i))).take r := by
  obtain ⟨i1, i2⟩ := back_spec ks nn e (ks.getD i 0) i [] (by omega)
  unfold lbMiss
  rw [i2, i1, mem_take_iff]
  have : (((kindsOf (D (Pre (ks.zip nn) i))).takeWhile fun y => decide (y ≠ ks.getD i 0)).filter fun y => decide (y ∉ ([] : List Int))) = (kindsOf (D (Pre (ks.zip nn) i))).takeWhile fun y => decide (y ≠ ks.getD i 0) := by
    apply List.filter_eq_self.mpr; simp
  rw [this, List.nil_append]
  constructor
  · rintro (h | h) ⟨a, b⟩
    · exact h a
    · omega
  · intro h
    by_cases a : ks.getD i 0 ∈ kindsOf (D (Pre (ks.zip nn) i))
    · right
      have : ¬ ((kindsOf (D (Pre (ks.zip nn) i))).takeWhile fun y => decide (y ≠ ks.getD i 0)).length < r := fun b => h ⟨a, b⟩
      omega
    · exact .inl a
theorem lk_eq (ks : List Int) (nn : List Str) (e : ks.length = nn.length) : ∀ m, m ≤ nn.length → lkRun ks nn m = (kindsOf (D ((ks.zip nn).reverse.take m)), (D ((ks.zip nn).reverse.take m)).map (·.2))
  | 0, _ => by simp [lkRun, D]
  | m + 1, h => by
    have ih := lk_eq ks nn e m (by omega)
    have hx : (ks.zip nn).reverse[m]? = some (ks.getD (nn.length - 1 - m) 0, nn.getD (nn.length - 1 - m) default) := by
      rw [List.getElem?_reverse (by rw [List.length_zip]; omega), List.length_zip, show min ks.length nn.length - 1 - m = nn.length - 1 - m by omega]
      exact zip_get (by omega) e
    rw [lkRun, ih, List.take_add_one, hx, Option.toList_some, D_snoc]
    dsimp only
    split
    · rfl
    · simp
theorem lk_all (ks : List Int) (nn : List Str) (e : ks.length = nn.length) : lkRun ks nn nn.length = (kindsOf (D (Pre (ks.zip nn) nn.length)), (D (Pre (ks.zip nn) nn.length)).map (·.2)) := by
  rw [lk_eq ks nn e nn.length (Nat.le_refl _)]
  have l1 : (ks.zip nn).length = nn.length := by rw [List.length_zip]; omega
  rw [List.take_of_length_le (by rw [List.length_reverse]; omega), Pre, List.take_of_length_le (by omega)]

theorem filt_id {R : List Ask} {k : Int} (h : k ∉ kindsOf R) : (R.filter fun y => decide (y.1 ≠ k)) = R := by
  apply List.filter_eq_self.mpr
  intro a m
  simp only [ne_eq, decide_not, Bool.not_eq_true', decide_eq_false_iff_not]
  exact fun e => h (e ▸ List.mem_map_of_mem (f := (·.1)) m)
theorem filtA : ∀ (R : List Ask) (r : Nat) (k : Int), (kindsOf R).Nodup → k ∈ kindsOf (R.take r) → (R.take r).filter (fun y => decide (y.1 ≠ k)) = (R.filter fun y => decide (y.1 ≠ k)).take (r - 1)
  | [], r, k, _, h => by simp at h
  | x :: R, 0, k, _, h => by simp at h
  | x :: R, r + 1, k, nd, h => by
    rw [kindsOf, List.map_cons, List.nodup_cons] at nd
    rw [List.take_succ_cons]
    by_cases hk : x.1 = k
    · have hk' : k ∉ kindsOf R := hk ▸ nd.1
      rw [List.filter_cons_of_neg (by simpa using hk), List.filter_cons_of_neg (by simpa using hk), filt_id hk', filt_id (fun q => hk' ?_)]
      · simp
      · rw [kindsOf, List.map_take] at q; exact List.mem_of_mem_take q
    · rw [List.filter_cons_of_pos (by simpa using hk), List.filter_cons_of_pos (by simpa using hk)]
      rw [List.take_succ_cons, kindsOf, List.map_cons, List.mem_cons] at h
      have h' : k ∈ kindsOf (R.take r) := by rcases h with h | h; exact absurd h.symm hk; exact h
      rw [filtA R r k nd.2 h']
      cases r with
      | zero => simp at h'
      | succ r => simp
theorem filtB : ∀ (R : List Ask) (r : Nat) (k : Int), k ∉ kindsOf (R.take r) → (R.filter fun y => decide (y.1 ≠ k)).take r = R.take r
  | [], r, k, _ => by simp
  | x :: R, 0, k, _ => by simp
  | x :: R, r + 1, k, h => by
    rw [List.take_succ_cons, kindsOf, List.map_cons, List.mem_cons, not_or] at h
    rw [List.filter_cons_of_pos (by simpa using fun e => h.1 e.symm), List.take_succ_cons, List.take_succ_cons, filtB R r k h.2]
theorem filtC : ∀ (l : List Ask) (z : Ask), (kindsOf (l ++ [z])).Nodup → (l ++ [z]).filter (fun y => decide (y.1 ≠ z.1)) = l := by
  intro l z nd
  rw [kindsOf, List.map_append, List.nodup_append] at nd
  rw [List.filter_append, filt_id (fun q => nd.2.2 _ q _ (by simp) rfl)]
  simp
/-- names and kinds go together -/
def Go (l : List Ask) : Prop := ∀ a ∈ l, ∀ b ∈ l, low a.2 = low b.2 ↔ a.1 = b.1
theorem Go.sub {l l' : List Ask} (h : Go l) (s : ∀ a ∈ l', a ∈ l) : Go l' := fun a ha b hb => h a (s a ha) b (s b hb)
theorem Go.has {l : List Ask} {x : Ask} (h : Go (x :: l)) : hasS (l.map (·.2)) x.2 = decide (x.1 ∈ kindsOf l) := by
  rw [Bool.eq_iff_iff, hasS, List.any_map, List.any_eq_true, decide_eq_true_eq, kindsOf, List.mem_map]
  constructor
  · rintro ⟨a, m, q⟩
    exact ⟨a, m, (h a (.tail _ m) x (.head _)).mp (of_decide_eq_true q)⟩
  · rintro ⟨a, m, q⟩
    exact ⟨a, m, decide_eq_true ((h a (.tail _ m) x (.head _)).mpr q)⟩
theorem Go.drop {l : List Ask} {x : Ask} (h : Go (x :: l)) : dropS (l.map (·.2)) x.2 = (l.filter fun y => decide (y.1 ≠ x.1)).map (·.2) := by
  rw [dropS, List.filter_map]
  congr 1
  apply List.filter_congr
  intro a m
  have := h a (.tail _ m) x (.head _)
  simp only [Function.comp_apply, ne_eq, this]
theorem dropS_rev (l : List Str) (x : Str) : dropS l.reverse x = (dropS l x).reverse := by rw [dropS, dropS, List.filter_reverse]
theorem hasS_rev (l : List Str) (x : Str) : hasS l.reverse x = hasS l x := by rw [hasS, hasS, List.any_reverse]
/-- what the first table holds, the latest first -/
theorem lru_turn {R : List Ask} {x : Ask} {r : Nat} {m : Int} (hr : 1 ≤ r) (nd : (kindsOf R).Nodup) (h : Go (x :: R)) :
    lruStep r (m, ((R.take r).map (·.2)).reverse) x.2 = (if x.1 ∈ kindsOf (R.take r) then m else m + 1, (((x :: R.filter fun y => decide (y.1 ≠ x.1)).take r).map (·.2)).reverse) := by
  have hT : Go (x :: R.take r) := h.sub fun a m => by
    rcases List.mem_cons.mp m with m | m
    · exact m ▸ .head _
    · exact .tail _ (List.mem_of_mem_take m)
  obtain ⟨r', rfl⟩ : ∃ r', r = r' + 1 := ⟨r - 1, by omega⟩
  have hs := hT.has
  have hd := hT.drop
  by_cases hk : x.1 ∈ kindsOf (R.take (r' + 1))
  · rw [lru_hit (by dsimp only; rw [hasS_rev, hs, decide_eq_true hk]), if_pos hk]
    dsimp only
    rw [dropS_rev, hd, filtA R _ _ nd hk, List.take_succ_cons, List.map_cons, List.reverse_cons]
    rfl
  · have hB := filtB R _ _ hk
    have hB' : (R.filter fun y => decide (y.1 ≠ x.1)).take r' = R.take r' := by
      have := congrArg (List.take r') hB
      rw [List.take_take, List.take_take, show min r' (r' + 1) = r' by omega] at this
      exact this
    rw [if_neg hk, List.take_succ_cons, hB', List.map_cons, List.reverse_cons]
    have hf : hasS ((R.take (r' + 1)).map (·.2)).reverse x.2 = false := by rw [hasS_rev, hs, decide_eq_false hk]
    by_cases hl : R.length ≤ r'
    · rw [lru_room hf (by dsimp only; simp only [List.length_reverse, List.length_map, List.length_take]; omega)]
      dsimp only
      rw [dropS_rev, hd, filt_id hk, List.take_of_length_le (by omega), List.take_of_length_le hl]
    · have hl' : r' < R.length := by omega
      rw [lru_full hf (by dsimp only; simp only [List.length_reverse, List.length_map, List.length_take]; omega)]
      dsimp only
      have e1 : R.take (r' + 1) = R.take r' ++ [R[r']] := by rw [List.take_add_one, List.getElem?_eq_getElem hl']; rfl
      have e2 : ((R.take (r' + 1)).map (·.2)).reverse.headD x.2 = R[r'].2 := by rw [e1, List.map_append, List.reverse_append]; rfl
      rw [e2]
      have hT2 : Go (R[r'] :: R.take (r' + 1)) := h.sub fun a m => by
        rcases List.mem_cons.mp m with m | m
        · exact m ▸ .tail _ (List.getElem_mem _)
        · exact .tail _ (List.mem_of_mem_take m)
      have e3 : (R.take (r' + 1)).filter (fun y => decide (y.1 ≠ R[r'].1)) = R.take r' := by
        rw [e1]
        apply filtC
        rw [← e1, kindsOf, List.map_take]
        exact nd.sublist (List.take_sublist _ _)
      rw [dropS_rev, hT2.drop, e3, dropS_rev]
      have hT3 : Go (x :: R.take r') := h.sub fun a m => by
        rcases List.mem_cons.mp m with m | m
        · exact m ▸ .head _
        · exact .tail _ (List.mem_of_mem_take m)
      rw [hT3.drop, filt_id]
      intro q
      apply hk
      rw [e1, kindsOf, List.map_append]
      exact List.mem_append_left _ q
theorem lru_run (ks : List Int) (nn : List Str) (e : ks.length = nn.length) (hgo : Go (ks.zip nn)) (r : Nat) (hr : 1 ≤ r) : ∀ i, i ≤ nn.length →
    (nn.take i).foldl (lruStep r) (0, []) = (lbCount ks r i, (((D (Pre (ks.zip nn) i)).take r).map (·.2)).reverse)
  | 0, _ => by rw [D_zero]; simp [lbCount]
  | i + 1, h => by
    have ih := lru_run ks nn e hgo r hr i (by omega)
    have hx := zip_get (ks := ks) (nn := nn) (i := i) (by omega) e
    have hn := getDS_some (ks := nn) (i := i) (by omega)
    rw [List.take_add_one, hn, Option.toList_some, List.foldl_append, List.foldl_cons, List.foldl_nil, ih]
    have hxm : (ks.getD i 0, nn.getD i default) ∈ ks.zip nn := List.mem_of_getElem? hx
    have hG : Go ((ks.getD i 0, nn.getD i default) :: D (Pre (ks.zip nn) i)) := hgo.sub fun a m => by
      rcases List.mem_cons.mp m with m | m
      · exact m ▸ hxm
      · have := D_sub _ _ m
        rw [Pre, List.mem_reverse] at this
        exact List.mem_of_mem_take this
    rw [show nn.getD i default = (ks.getD i 0, nn.getD i default).2 from rfl, lru_turn hr (D_nodup _) hG, Pre_succ hx, D, lbCount]
    congr 1
    have hm := lbMiss_iff ks nn e r i (by omega)
    by_cases q : ks.getD i 0 ∈ (kindsOf (D (Pre (ks.zip nn) i))).take r
    · rw [if_pos (by rw [kindsOf, List.map_take]; exact q), if_neg (fun z => hm.mp z q)]
    · rw [if_neg (by rw [kindsOf, List.map_take]; exact q), if_pos (hm.mpr q)]
/-- the first table: what the law asks of it -/
theorem lru_law (ks : List Int) (nn : List Str) (e : ks.length = nn.length) (hgo : Go (ks.zip nn)) (r : Nat) (hr : 1 ≤ r) :
    nn.foldl (lruStep r) (0, []) = (lbCount ks r ks.length, ((lkRun ks nn nn.length).2.take r).reverse) := by
  have := lru_run ks nn e hgo r hr nn.length (Nat.le_refl _)
  rw [List.take_length] at this
  rw [this, lk_all ks nn e, e, List.map_take]
section
variable {w : World} {A : Around} {E : Value → Shared → Prop} {s₀ s : Shared} {g : Heap} {L : Addr} {ns : List Str} {vs : List (Option Value)} {nw nw' : List (Addr × Pd)} {env : Env}
def isBI (b : Array UInt8) (t : Tok) (i : Nat) : Pd := fun o => o.cls = .type "bytes_iterator" ∧ o.data = .fields #[.bytes b t, .int i 0]
theorem itr_bytes {I : Addr} {b : Array UInt8} {t : Tok} (hh : A.handled = none) : Itr w A I b.size (fun i v => ∃ c u, b[i]? = some c ∧ v = .int (c.toNat : Int) u) (isBI b t) (fun _ => True) := by
  refine ⟨fun i s Q hi hI hl h => ?_, fun s Q hI hl h => ?_, fun i s v target Q hI h => ?_⟩
  · obtain ⟨o, ho, r⟩ := hI
    refine KBw.next_item (c := b[i]) ⟨o, ho, r⟩ (by simp [hi]) fun h' hi' hs => ?_
    exact h _ _ ⟨b[i], _, by simp [hi], rfl⟩ hi' (fun b o n e => (hs.2 b n).trans e) ⟨rfl, rfl, rfl⟩
  · obtain ⟨o, ho, r⟩ := hI
    exact KBw.next_end hh ⟨o, ho, r⟩ (by simp) fun h' he => h _ (fun b o n e => he b o n e) ⟨rfl, rfl, rfl⟩
  · obtain ⟨o, ho, r⟩ := hI
    exact owned_no ho r.1 (by decide +kernel) h
theorem r_for_bytes {target : Expr} {body : List Stmt} {Q : Flow → Shared → Prop} {b : Array UInt8} {t : Tok} (hh : A.handled = none)
    (J : Nat → List (Option Value) → List (Addr × Pd) → Prop) (P : List (Option Value) → List (Addr × Pd) → Prop)
    (S : ST s₀ g L ns vs nw s) (hJ : J 0 vs nw)
    (turn : ∀ I i c u vs nw P0 s, i < b.size → b[i]? = some c → J i vs nw → ST s₀ g L ns vs ((I, P0) :: nw) s →
      wpAny (model PR w) A (assign target env (.int (c.toNat : Int) u)) (fun _ s₂ => wpAny (model PR w) A (execs body env) (FStep s₀ g L ns I P0 (J (i + 1)) P Q) (fun _ _ => False) s₂) (fun _ _ => False) s)
    (done : ∀ vs nw s, J b.size vs nw ∨ P vs nw → ST s₀ g L ns vs nw s → Q .next s) :
    wpAny (model PR w) A (pyIter (.bytes b t)) (fun it s₂ => codeAny (model PR w) A (.forLoop target it body [] env) (fun r s' => match r with | .ok f => Q f s' | .error e => cameBackBy (model PR w) A env (fun _ _ => False) e s') s₂) (fun _ _ => False) s := by
  refine KBw.pyIter_bytes ?_
  exact loopI (itr_bytes hh) J P (S.push (P := isBI b t 0) ⟨rfl, rfl⟩) hJ (fun _ _ _ _ _ _ _ => trivial) (fun i v vs nw P0 s hi hv j S' => by obtain ⟨c, u, h1, rfl⟩ := hv; exact turn _ i c u vs nw P0 s hi h1 j S') done
theorem r_for_bytesN {target : Expr} {body : List Stmt} {Q : Flow → Shared → Prop} {b : Array UInt8} {t : Tok} (hh : A.handled = none)
    (J : Nat → List (Option Value) → List (Addr × Pd) → Prop) (P : List (Option Value) → List (Addr × Pd) → Prop)
    (S : ST s₀ g L ns vs nw s) (hJ : J 0 vs nw)
    (turn : ∀ I i c u vs nw P0 s (QQ : Flow → Shared → Prop), (∀ fl s', FStep s₀ g L ns I P0 (J (i + 1)) P (fun _ _ => False) fl s' → QQ fl s') → i < b.size → b[i]? = some c → J i vs nw → ST s₀ g L ns vs ((I, P0) :: nw) s →
      wpAny (model PR w) A (assign target env (.int (c.toNat : Int) u)) (fun _ s₂ => wpAny (model PR w) A (execs body env) QQ (fun _ _ => False) s₂) (fun _ _ => False) s)
    (done : ∀ vs nw s, J b.size vs nw ∨ P vs nw → ST s₀ g L ns vs nw s → Q .next s) :
    wpAny (model PR w) A (pyIter (.bytes b t)) (fun it s₂ => codeAny (model PR w) A (.forLoop target it body [] env) (fun r s' => match r with | .ok f => Q f s' | .error e => cameBackBy (model PR w) A env (fun _ _ => False) e s') s₂) (fun _ _ => False) s :=
  r_for_bytes hh J P S hJ (fun I i c u vs nw P0 s hi hc j S' => turn I i c u vs nw P0 s _ (fun _ _ q => q.any) hi hc j S') done
theorem r_bytes {l : Addr} {iv : List Value} {ks : List Int} {Q : Value → Shared → Prop} (hh : A.handled = none) (S : ST s₀ g L ns vs nw s) (hl : At s.heap l (isL iv.toArray)) (hi : IntsAre iv ks) (hr : KBa.In ks) (hn : ks.length ≤ 1000)
    (h : ∀ t s', ST s₀ g L ns vs nw s' → Q (.bytes (byteArr ks) t) s') : wpAny (model PR w) A (call (.type "bytes") [.ref l]) Q E s :=
  call_bytes_ints hl hi hr (by rw [hi.length, sizeLine_eq]; omega) hh fun h' t' k hk => h t' _ (S.grow (s' := { s with heap := h', toks := k }) hk ⟨rfl, rfl, rfl⟩)
theorem r_bitem {value slice : Expr} {b : Array UInt8} {i : Int} {t u : Tok} {Q : Value → Shared → Prop} (S : ST s₀ g L ns vs nw s) (h0 : 0 ≤ i) (hz : b.size ≤ 1000) (hx : i < b.size) (h : ∀ t s', ST s₀ g L ns vs nw s' → Q (.int ((KBw.bInts b).getD i.toNat 0) t) s')
    (hs : subscripted slice false (.bytes b t) (.int i u) = operate [.bytes b t, .int i u] (getItem (.bytes b t) (.int i u)) := by with_unfolding_all rfl)
    (ht : ∀ r, letTemporaryGo value (.bytes b t) r = pure () := by intro _; with_unfolding_all rfl) :
    wpAny (model PR w) A (subscriptTail value slice (.bytes b t) (.int i u)) Q E s :=
  KBw.item_K rfl (by rw [KBw.ints_length]; omega) h0 (by rw [KBw.ints_length]; exact hx) (fun t' k _ _ => h t' _ S.tok) hs ht
end
section
variable {w : World} {A : Around} {E : Value → Shared → Prop} {s₀ s : Shared} {g : Heap} {L : Addr} {ns : List Str} {vs : List (Option Value)} {nw nw' : List (Addr × Pd)} {env : Env}
theorem buffer_spec {bs : Array UInt8} {b : Heap} {t : Tok} {Q : Value → Shared → Prop} (W : Wld w b) (hb : ∀ a o, b.get? a = some o → s.heap.get? a = some o) (ok : Ok A 1)
    (h : ∀ s', Same s s' → Keeps [] s.heap s'.heap → Q (.bytes bs t) s') :
    wpAny (model PR w) A (call (.ref 73) [.bytes bs t]) Q E s := by
  refine wpAny_call ?_
  refine enter [(Str.ofString "data", .bytes bs t)] [Str.ofString "data", Str.ofString "t"] [some (.bytes bs t), none] [] W hb (by simp) (by simp) rfl rfl ok.room (BindsTo.of_eq rfl) (locs rfl) (by decide +kernel) (by walk_at "m.hvs") ?_
  intro g L s1 hbg hsg hgs Wg S
  walk_at "m.go"
  refine call_type_of (Tx := "bytes") (typeIs_bytes _ _ _) (by decide +kernel) ?_
  walk_at "m.go"
  rename_i S2
  exact h _ S2.same (S2.keeps hsg)
theorem truth_spec {b : Heap} {Q : Value → Shared → Prop} (W : Wld w b) (hb : ∀ a o, b.get? a = some o → s.heap.get? a = some o) (ok : Ok A 1)
    (h : ∀ s', Same s s' → Keeps [] s.heap s'.heap → Q (.bool false) s') :
    wpAny (model PR w) A (call (.ref 80) [.bool false]) Q E s := by
  refine wpAny_call ?_
  refine enter [(Str.ofString "x", .bool false)] [Str.ofString "x", Str.ofString "t"] [some (.bool false), none] [] W hb (by simp) (by simp) rfl rfl ok.room (BindsTo.of_eq rfl) (locs rfl) (by decide +kernel) (by walk_at "m.hvs") ?_
  intro g L s1 hbg hsg hgs Wg S
  walk_at "m.go"
  rename_i S2
  exact h _ S2.same (S2.keeps hsg)
end
abbrev b64tab : Array UInt8 := #[65, 66, 67, 68, 69, 70, 71, 72, 73, 74, 75, 76, 77, 78, 79, 80, 81, 82, 83, 84, 85, 86, 87, 88, 89, 90, 97, 98, 99, 100, 101, 102, 103, 104, 105, 106, 107, 108, 109, 110, 111, 112, 113, 114, 115, 116, 117, 118, 119, 120, 121, 122, 48, 49, 50, 51, 52, 53, 54, 55, 56, 57, 43, 47]
theorem gv_B64 {w : World} : GV w (Str.ofString "_B64") (.bytes b64tab 351) := .inl (by kernel_rfl)
section
open PySem.W PySem.Builtin
variable {b : Array UInt8} {c : UInt8} {cs : List UInt8} {t u : Tok} {x : PySem.Str} {n : Nat}
theorem args_dec2 (a e : Value) : argsOk "bytes.decode" ⟨[a, e], []⟩ := by
  unfold argsOk; rw [signature?_of (id := "bytes.decode") (n := ['e', 'd', 'o', 'c', 'e', 'd']) (o := ['s', 'e', 't', 'y', 'b']) (by kernel_rfl) FB.owner_bytes]; kernel_rfl
theorem road_ascii {id : String} : _codecs.decodeRoad id b (PySem.Str.ofString "ascii") none [] = (_codecs.runDecoder id _codecs.asciiDecoder none true b 0 [] >>= fun r => mkStr ⟨r.1⟩) := by kernel_rfl
theorem meets_ascii {t1 t2 : Tok} {d : PySem.Str} (hd : ∀ id, _codecs.runDecoder id _codecs.asciiDecoder none true b 0 [] = pure (x.cps, n)) :
    Meets («_codecs.decode.text» ⟨[.bytes b t, .str (PySem.Str.ofString "ascii") t1, .none, .str d t2], []⟩) (fun _ R s => x.length ≤ sizeLine ∧ R (.ok (.ret (.str x s.toks))) { s with toks := s.toks + 1 }) := by
  refine .of_wp fun prog w A R s hS => ?_
  obtain ⟨hsz, h⟩ := hS
  show wpAny _ _ (Bytes.bytesLike _ (.bytes b t) >>= fun r => _) _ _ s
  refine wpAny_bind (wpAny_of_eq KBd.like_eq ?_)
  refine wpAny_bind (wpAny_of_eq KBd.held_eq ?_)
  show wpAny _ _ (_codecs.decodeRoad _ b (PySem.Str.ofString "ascii") none [] >>= fun v => _) _ _ s
  rw [road_ascii, hd]
  refine wpAny_bind (wpAny_bind (wpAny_pure ?_))
  exact wpAny_mkStr (wpAny_pure ⟨_, rfl, h⟩) hsz
theorem entry_ascii : «bytes.decode» ⟨[.bytes (c :: cs).toArray t, .str (PySem.Str.ofString "ascii") u], []⟩ = (mkStr (PySem.Str.ofString "utf-8") >>= fun _ => mkStr (PySem.Str.ofString "ascii") >>= fun e => mkStr (PySem.Str.ofString "bytes.decode") >>= fun d =>
    call (.builtin "_codecs.decode.text") [.bytes (c :: cs).toArray t, e, .none, d] >>= fun v => ret v) := by kernel_rfl
theorem meets_decode2 (hd : ∀ id, _codecs.runDecoder id _codecs.asciiDecoder none true (c :: cs).toArray 0 [] = pure (x.cps, n)) :
    Meets («bytes.decode» ⟨[.bytes (c :: cs).toArray t, .str (PySem.Str.ofString "ascii") u], []⟩) (fun _ R s => x.length ≤ sizeLine ∧ ∀ t' k, R (.ok (.ret (.str x t'))) { s with toks := k }) := by
  refine .of_wp fun prog w A R s hS => ?_
  obtain ⟨hsz, h⟩ := hS
  rw [entry_ascii]
  refine wpAny_bind (wpAny_mkStr ?_ (by decide))
  refine wpAny_bind (wpAny_mkStr ?_ (by decide))
  refine wpAny_bind (wpAny_mkStr ?_ (by decide))
  exact wpAny_bind (call_function_meets KBd.kind_text KBd.plain_text KBd.entry_text (KBd.args_text _ _ _ _) (meets_ascii hd) ⟨hsz, wpAny_pure ⟨_, rfl, h _ _⟩⟩)
theorem run_ascii {c0 c1 c2 c3 : UInt8} (h0 : c0.toNat < 128) (h1 : c1.toNat < 128) (h2 : c2.toNat < 128) (h3 : c3.toNat < 128) (id : String) :
    _codecs.runDecoder id _codecs.asciiDecoder none true [c0, c1, c2, c3].toArray 0 [] = pure ((PySem.Str.mk #[c0.toNat, c1.toNat, c2.toNat, c3.toNat]).cps, 4) := by
  have f0 : _codecs.asciiDecoder.find true [c0, c1, c2, c3].toArray 0 = .text [c0.toNat] 1 := by show (if c0.toNat < 128 then _ else _) = _; rw [if_pos h0]; rfl
  have f1 : _codecs.asciiDecoder.find true [c0, c1, c2, c3].toArray 1 = .text [c1.toNat] 2 := by show (if c1.toNat < 128 then _ else _) = _; rw [if_pos h1]; rfl
  have f2 : _codecs.asciiDecoder.find true [c0, c1, c2, c3].toArray 2 = .text [c2.toNat] 3 := by show (if c2.toNat < 128 then _ else _) = _; rw [if_pos h2]; rfl
  have f3 : _codecs.asciiDecoder.find true [c0, c1, c2, c3].toArray 3 = .text [c3.toNat] 4 := by show (if c3.toNat < 128 then _ else _) = _; rw [if_pos h3]; rfl
  unfold _codecs.runDecoder
  have z : ∀ n : Nat, n ≤ 8 → ¬ n > sizeLine := fun n hn => by rw [sizeLine_eq]; omega
  simp only [List.size_toArray, List.length_cons, List.length_nil, Std.Legacy.Range.forIn_eq_forIn_range', Std.Legacy.Range.size, List.range', List.forIn_cons, List.forIn_nil]
  rw [if_neg (z _ (by decide)), if_neg (by decide), f0]
  dsimp only
  rw [pure_bind]
  dsimp only
  rw [if_neg (z _ (by simp)), if_neg (by decide), f1]
  dsimp only
  rw [pure_bind]
  dsimp only
  rw [if_neg (z _ (by simp)), if_neg (by decide), f2]
  dsimp only
  rw [pure_bind]
  dsimp only
  rw [if_neg (z _ (by simp)), if_neg (by decide), f3]
  dsimp only
  rw [pure_bind]
  dsimp only
  rw [pure_bind]
  rfl
variable {w : World} {A : Around} {E : Value → Shared → Prop} {s₀ s : Shared} {g : Heap} {L : Addr} {ns : List Str} {vs : List (Option Value)} {nw nw' : List (Addr × Pd)} {env : Env}
theorem r_decode {c0 c1 c2 c3 : UInt8} {Q : Value → Shared → Prop} (S : ST s₀ g L ns vs nw s) (h0 : c0.toNat < 128) (h1 : c1.toNat < 128) (h2 : c2.toNat < 128) (h3 : c3.toNat < 128)
    (h : ∀ t s', ST s₀ g L ns vs nw s' → Q (.str ⟨#[c0.toNat, c1.toNat, c2.toNat, c3.toNat]⟩ t) s') :
    wpAny (model PR w) A (call (.builtin "bytes.decode") [.bytes #[c0, c1, c2, c3] t, .str (PySem.Str.ofString "ascii") u]) Q E s :=
  call_meets FB.slot_bytes_decode (typeIs_bytes _ _ _) FB.entry_bytes_decode (args_dec2 _ _) (meets_decode2 (run_ascii h0 h1 h2 h3)) ⟨by rw [sizeLine_eq]; show 4 ≤ _; omega, fun t' k => h t' _ S.tok⟩
end
local macro_rules | `(tactic| walk_at "m.gv") => `(tactic| exact gv_B64)
local macro_rules | `(tactic| walk_at "binaryOp BitAnd int int") => `(tactic| (with_reducible (refine r_and (by assumption) ?_); intro _ _ _))
local macro_rules | `(tactic| walk_at "binaryOp BitOr int int") => `(tactic| (with_reducible (refine r_or (by assumption) ?_); intro _ _ _))
local macro_rules | `(tactic| walk_at "binaryOp LShift int int") => `(tactic| (with_reducible (refine r_shl (by assumption) ?_ ?_ ?_ ?_); (first | decide | omega); (first | decide | omega); (first | decide | omega | fail "mine"); intro _ _ _))
local macro_rules | `(tactic| walk_at "binaryOp RShift int int") => `(tactic| (with_reducible (refine r_shr (by assumption) ?_ ?_); (first | decide | omega); intro _ _ _))
section
variable {w : World} {A : Around} {E : Value → Shared → Prop} {s₀ s : Shared} {g : Heap} {L : Addr} {ns : List Str} {vs : List (Option Value)} {nw nw' : List (Addr × Pd)} {env : Env}
abbrev tabI (i : Nat) : Int := (KBw.bInts b64tab).getD i 0
theorem bits0 : ∀ c : Fin 256, Builtin.bitAnd (Builtin.bitOr (0 * 2 ^ (8 : Int).toNat) (c.val : Int)) 65535 = (c.val : Int) := by decide +kernel
theorem bits1 : ∀ c : Fin 256, Builtin.bitAnd ((c.val : Int).fdiv (2 ^ (8 - 6 : Int).toNat)) 63 = ((c.val / 4 : Nat) : Int) := by decide +kernel
theorem bits2 : ∀ c : Fin 256, Builtin.bitAnd (c.val : Int) 3 * 2 ^ (4 : Int).toNat = ((c.val % 4 * 16 : Nat) : Int) := by decide +kernel
theorem bits3 : ∀ c : Fin 256, Builtin.bitAnd (c.val : Int) 3 = ((c.val % 4 : Nat) : Int) := by decide +kernel
theorem b2a_spec {c : UInt8} {b : Heap} {t : Tok} {Q : Value → Shared → Prop} (W : Wld w b) (hb : ∀ a o, b.get? a = some o → s.heap.get? a = some o) (ok : Ok A 2)
    (h : ∀ s' u, Same s s' → Keeps [] s.heap s'.heap → Q (.bytes (byteArr [tabI (c.toNat / 4), tabI (c.toNat % 4 * 16), 61, 61]) u) s') :
    wpAny (model PR w) A (call (.ref 88) [.bytes #[c] t] [(Str.ofString "newline", .bool false)]) Q E s := by
  refine wpAny_call ?_
  refine enter [(Str.ofString "data", .bytes #[c] t), (Str.ofString "newline", .bool false)] [Str.ofString "data", Str.ofString "newline", Str.ofString "bin_data", Str.ofString "out", Str.ofString "leftbits", Str.ofString "leftchar", Str.ofString "b"]
    [some (.bytes #[c] t), some (.bool false), none, none, none, none, none] [] W hb (by simp) (by simp) rfl rfl ok.room (BindsTo.of_eq rfl) (locs rfl) (by decide +kernel) (by walk_at "m.hvs") ?_
  intro g L s1 hbg hsg hgs Wg S
  walk_at "m.go"
  refine buffer_spec Wg S.keep ok.deeper ?_
  intro s2 e2 k2
  have S2 := S.call0 e2 k2
  walk_at "m.go"
  rename_i S3
  refine truth_spec Wg S3.keep ok.deeper ?_
  intro s4 e4 k4
  have S4 := S3.call0 e4 k4
  clear S3 S2 S
  walk_at "m.go"
  rename_i o _ _ _ _ t5 _ _ _ _ t6 _ _ _ S5
  refine r_for_bytesN (b := #[c]) ok.hh (fun i vs nw => ∃ lb lc x0 ov, vs = [some (.bytes #[c] t), some (.bool false), some (.bytes #[c] t), some (.ref o), lb, lc, x0] ∧ nw = [(o, isLx (List.toArray ov))] ∧
      ((i = 0 ∧ isI 0 lb ∧ isI 0 lc ∧ ov = []) ∨ (i = 1 ∧ isI 2 lb ∧ isI c.toNat lc ∧ IntsAre ov [tabI (c.toNat / 4)]))) (fun _ _ => False) S5 ⟨_, _, _, [], rfl, rfl, .inl ⟨rfl, .mk rfl, .mk rfl, rfl⟩⟩ ?_ ?_
  · rintro I i c' u vs nw P0 s6 QQ hQQ hi hc ⟨lb, lc, x0, ov, rfl, rfl, h1⟩ S6
    have hi0 : i = 0 := by simp at hi; omega
    subst hi0
    simp at hc
    subst hc
    rcases h1 with ⟨_, ⟨u1, rfl⟩, ⟨u2, rfl⟩, rfl⟩ | ⟨q, _⟩
    · have hcf : c.toNat < 256 := c.toNat_lt
      clear S5 S4
      walk_at "m.go"
      rename_i S7
      have e0 := bits0 ⟨c.toNat, hcf⟩
      have e1 := bits1 ⟨c.toNat, hcf⟩
      dsimp only at e0 e1
      rw [e0] at S7
      refine r_whileN (n₀ := 1) (fun n vs nw => ∃ lb lc ov, vs = [some (.bytes #[c] t), some (.bool false), some (.bytes #[c] t), some (.ref o), lb, lc, some (.int c.toNat u)] ∧ isI c.toNat lc ∧ nw = [(I, P0), (o, isLx (List.toArray ov))] ∧
          ((n = 1 ∧ isI 8 lb ∧ ov = []) ∨ (n = 0 ∧ isI 2 lb ∧ IntsAre ov [tabI (c.toNat / 4)])))
        (fun vs nw => ∃ lb lc ov, vs = [some (.bytes #[c] t), some (.bool false), some (.bytes #[c] t), some (.ref o), lb, lc, some (.int c.toNat u)] ∧ isI c.toNat lc ∧ nw = [(I, P0), (o, isLx (List.toArray ov))] ∧ isI 2 lb ∧ IntsAre ov [tabI (c.toNat / 4)])
        S7 ⟨_, _, [], rfl, .mk rfl, rfl, .inl ⟨rfl, .mk rfl, rfl⟩⟩ ?_ ?_
      · rintro n vs nw s8 QB QX hQB hQX ⟨lb, lc, ov, rfl, ⟨u4, rfl⟩, rfl, h8⟩ S8
        rcases h8 with ⟨rfl, ⟨u3, rfl⟩, rfl⟩ | ⟨rfl, ⟨u3, rfl⟩, hov⟩
        · clear S7
          walk_at "m.go"
          · rename_i S9
            rw [e1]
            refine r_bitem S9 (by omega) (by decide) ?_ ?_
            · show ((c.toNat / 4 : Nat) : Int) < 64
              omega
            intro t9 s9 S9
            rw [Int.toNat_natCast]
            walk_at "m.go"
            refine r_append S9 (by walk_at "m.at") (by rw [sizeLine_eq]; decide) (by walk_at "m.up") ?_
            intro sA SA
            walk_at "m.go"
            exact hQB _ _ ⟨0, _, _, by omega, by assumption, _, _, _, rfl, .mk rfl, rfl, .inr ⟨rfl, .mk rfl, intsOne _ _⟩⟩
          · omega
        · clear S7
          walk_at "m.go"
          · omega
          · exact hQX _ ⟨_, _, by assumption, _, _, ov, rfl, .mk rfl, rfl, .mk rfl, hov⟩
      · rintro vs nw s8 ⟨lb, lc, ov, rfl, ⟨u4, rfl⟩, rfl, hlb, hov⟩ S8
        walk_at "m.go"
        exact hQQ _ _ ⟨_, _, S8, _, _, _, ov, rfl, rfl, .inr ⟨rfl, hlb, .mk rfl, hov⟩⟩
    · omega
  · rintro vs nw s6 (⟨lb, lc, x0, ov, rfl, rfl, h1⟩ | hf) S6
    · rcases h1 with ⟨q, _⟩ | ⟨_, ⟨u1, rfl⟩, ⟨u2, rfl⟩, hov⟩
      · simp at q
      have hcf : c.toNat < 256 := c.toNat_lt
      have e2 := bits2 ⟨c.toNat, hcf⟩
      have e3 := bits3 ⟨c.toNat, hcf⟩
      dsimp only at e2 e3
      have hlv := hov.length
      simp only [List.length_cons, List.length_nil] at hlv
      clear S5 S4
      walk_at "m.go"
      · rename_i S9
        rw [e2]
        refine r_bitem S9 (by omega) (by decide) ?_ ?_
        · show ((c.toNat % 4 * 16 : Nat) : Int) < 64
          omega
        intro tA sA SA
        rw [Int.toNat_natCast]
        walk_at "m.go"
        refine r_append SA (by walk_at "m.at") (by rw [List.size_toArray, sizeLine_eq]; omega) (by walk_at "m.up") ?_
        intro sB SB
        rw [List.push_toArray] at SB
        walk_at "m.go"
        refine r_append (by assumption) (by walk_at "m.at") (by rw [List.size_toArray, sizeLine_eq, List.length_append]; simp only [List.length_cons, List.length_nil]; omega) (by walk_at "m.up") ?_
        intro sC SC
        rw [List.push_toArray] at SC
        walk_at "m.go"
        refine r_append (by assumption) (by walk_at "m.at") (by rw [List.size_toArray, sizeLine_eq, List.length_append, List.length_append]; simp only [List.length_cons, List.length_nil]; omega) (by walk_at "m.up") ?_
        intro sD SD
        rw [List.push_toArray] at SD
        walk_at "m.go"
        refine r_bytes ok.hh SD (SD.new (.head _)).weak (ks := [tabI (c.toNat / 4), tabI (c.toNat % 4 * 16), 61, 61]) (((hov.append (intsOne _ _)).append (intsOne _ _)).append (intsOne _ _)) ?_ (by simp) ?_
        · intro k hk
          have tb : ∀ i : Nat, 0 ≤ tabI i ∧ tabI i < 256 := by
            intro i
            unfold tabI
            rw [List.getD_eq_getElem?_getD]
            cases q : (KBw.bInts b64tab)[i]? with
            | none => exact ⟨by decide, by decide⟩
            | some v => exact KBw.ints_in (List.mem_of_getElem? q)
          simp only [List.mem_cons, List.not_mem_nil, or_false] at hk
          rcases hk with rfl | rfl | rfl | rfl
          · exact tb _
          · exact tb _
          · decide
          · decide
        intro tE sE SE
        walk_at "m.go"
        exact h _ _ SE.same (SE.keeps hsg)
      · rename_i hq
        exact absurd hq (by decide)
    · exact hf.elim
end
local macro_rules | `(tactic| walk_at "binaryOp FloorDiv int int") => `(tactic| (with_reducible (refine r_fdiv (by assumption) ?_ ?_ ?_); (first | decide | omega); (first | decide | omega); intro _ _ _))
section
variable {w : World} {A : Around} {E : Value → Shared → Prop} {s₀ s : Shared} {g : Heap} {L : Addr} {ns : List Str} {vs : List (Option Value)} {nw nw' : List (Addr × Pd)} {env : Env}
theorem b64_spec {c : UInt8} {b : Heap} {t : Tok} {Q : Value → Shared → Prop} (W : Wld w b) (hb : ∀ a o, b.get? a = some o → s.heap.get? a = some o) (ok : Ok A 3)
    (h : ∀ s' u, Same s s' → Keeps [] s.heap s'.heap → Q (.bytes (byteArr [tabI (c.toNat / 4), tabI (c.toNat % 4 * 16), 61, 61]) u) s') :
    wpAny (model PR w) A (call (.ref 96) [.bytes #[c] t]) Q E s := by
  refine wpAny_call ?_
  refine enter [(Str.ofString "s", .bytes #[c] t), (Str.ofString "altchars", .none)] [Str.ofString "s", Str.ofString "altchars", Str.ofString "encoded"]
    [some (.bytes #[c] t), some .none, none] [] W hb (by simp) (by simp) rfl rfl ok.room (BindsTo.of_defaults (T := 89) rfl (W.at hb _ _ (by rfl)) rfl rfl rfl) (locs rfl) (by decide +kernel) (by walk_at "m.hvs") ?_
  intro g L s1 hbg hsg hgs Wg S
  walk_at "m.go"
  refine b2a_spec Wg (ST.keep (by assumption)) ok.deeper ?_
  intro s2 u e2 k2
  have S2 := S.call0 e2 k2
  walk_at "m.go"
  exact h _ _ (ST.same (by assumption)) (ST.keeps (by assumption) hsg)
end
/-- the octet of an asking, and its name -/
def octet (x total : Int) : Int := if x.fmod 5 = 4 then 208 + total.fmod 48 else (37 * x.fmod 5 + total).fmod 104 + 104 * (x.fdiv 5).fmod 2
def nameOf (o : Nat) : Str := ⟨#[(tabI (o / 4)).toNat, (tabI (o % 4 * 16)).toNat, 61, 61]⟩
theorem octet_in (x total : Int) : 0 ≤ octet x total ∧ octet x total < 256 := by
  unfold octet
  have a := Int.fmod_nonneg_of_pos x (b := 5) (by omega)
  have b := Int.fmod_lt_of_pos x (b := 5) (by omega)
  have a1 := Int.fmod_nonneg_of_pos total (b := 48) (by omega)
  have b1 := Int.fmod_lt_of_pos total (b := 48) (by omega)
  have a2 := Int.fmod_nonneg_of_pos (37 * x.fmod 5 + total) (b := 104) (by omega)
  have b2 := Int.fmod_lt_of_pos (37 * x.fmod 5 + total) (b := 104) (by omega)
  have a3 := Int.fmod_nonneg_of_pos (x.fdiv 5) (b := 2) (by omega)
  have b3 := Int.fmod_lt_of_pos (x.fdiv 5) (b := 2) (by omega)
  split <;> omega
theorem tab_all : ∀ i : Fin 64, 0 ≤ tabI i ∧ tabI i < 128 := by decide +kernel
theorem tab_lt (i : Nat) : 0 ≤ tabI i ∧ tabI i < 128 := by
  by_cases h : i < 64
  · exact tab_all ⟨i, h⟩
  · have : tabI i = 0 := by
      unfold tabI
      rw [List.getD_eq_getElem?_getD, List.getElem?_eq_none (by rw [KBw.ints_length]; show 64 ≤ i; omega)]
      rfl
    rw [this]; decide
theorem tab_u8 (i : Nat) : ((tabI i).toNat.toUInt8).toNat = (tabI i).toNat := by
  have := tab_lt i
  rw [Nat.toUInt8, UInt8.toNat_ofNat']
  omega
section
variable {w : World} {A : Around} {E : Value → Shared → Prop} {s₀ s : Shared} {g : Heap} {L : Addr} {ns : List Str} {vs : List (Option Value)} {nw nw' : List (Addr × Pd)} {env : Env}
theorem name_spec {x total : Int} {b : Heap} {t u : Tok} {Q : Value → Shared → Prop} (W : Wld w b) (hb : ∀ a o, b.get? a = some o → s.heap.get? a = some o) (ok : Ok A 4)
    (h : ∀ s' u, Same s s' → Keeps [] s.heap s'.heap → Q (.str (nameOf (octet x total).toNat) u) s') :
    wpAny (model PR w) A (call (.ref 240) [.int x t, .int total u]) Q E s := by
  refine wpAny_call ?_
  refine enter [(Str.ofString "x", .int x t), (Str.ofString "total", .int total u)] [Str.ofString "x", Str.ofString "total", Str.ofString "octet"]
    [some (.int x t), some (.int total u), none] [] W hb (by simp) (by simp) rfl rfl ok.room (BindsTo.of_eq rfl) (locs rfl) (by decide +kernel) (by walk_at "m.hvs") ?_
  intro g L s1 hbg hsg hgs Wg S
  have a := Int.fmod_nonneg_of_pos x (b := 5) (by omega)
  have b' := Int.fmod_lt_of_pos x (b := 5) (by omega)
  have a3 := Int.fmod_nonneg_of_pos (x.fdiv 5) (b := 2) (by omega)
  have b3 := Int.fmod_lt_of_pos (x.fdiv 5) (b := 2) (by omega)
  walk_at "m.go"
  walk_at "m.go"
  · rename_i hq _ _ _ _ _ _ _ _ _ _ _ _ _ _ ol _ SA
    have eo : 208 + total.fmod 48 = octet x total := by unfold octet; rw [if_pos (by simpa using hq)]
    have hoc := octet_in x total
    have hc : ((octet x total).toNat.toUInt8).toNat = (octet x total).toNat := by
      rw [Nat.toUInt8, UInt8.toNat_ofNat']; omega
    have t1 := tab_lt ((octet x total).toNat / 4)
    have t2 := tab_lt ((octet x total).toNat % 4 * 16)
    have u1 := tab_u8 ((octet x total).toNat / 4)
    have u2 := tab_u8 ((octet x total).toNat % 4 * 16)
    have eb : byteArr [tabI ((octet x total).toNat / 4), tabI ((octet x total).toNat % 4 * 16), 61, 61] = #[(tabI ((octet x total).toNat / 4)).toNat.toUInt8, (tabI ((octet x total).toNat % 4 * 16)).toNat.toUInt8, 61, 61] := rfl
    rw [eo] at SA
    clear hq
    refine r_bytes ok.hh SA (SA.new (.head _)).weak (intsOne _ _) (by intro k hk; rw [List.mem_singleton.mp hk]; exact octet_in x total) (by simp) ?_
    intro tB sB SB
    walk_at "m.go"
    refine b64_spec (c := (octet x total).toNat.toUInt8) Wg (ST.keep (by assumption)) ok.deeper ?_
    intro sC uC eC kC
    have SC := SB.call0 eC kC
    rw [hc, eb]
    walk_at "m.go"
    refine KBd.method ?_
    walk_at "m.go"
    rename_i SD
    refine r_decode SD (by omega) (by omega) (by decide) (by decide) ?_
    intro tE sE SE
    rw [u1, u2]
    walk_at "m.go"
    exact h _ _ SE.same (SE.keeps hsg)
  · rename_i hq
    walk_at "m.go"
    rename_i ol _ SA
    have eo : (37 * x.fmod 5 + total).fmod 104 + 104 * (x.fdiv 5).fmod 2 = octet x total := by unfold octet; rw [if_neg (by simpa using hq)]
    have hoc := octet_in x total
    have hc : ((octet x total).toNat.toUInt8).toNat = (octet x total).toNat := by
      rw [Nat.toUInt8, UInt8.toNat_ofNat']; omega
    have t1 := tab_lt ((octet x total).toNat / 4)
    have t2 := tab_lt ((octet x total).toNat % 4 * 16)
    have u1 := tab_u8 ((octet x total).toNat / 4)
    have u2 := tab_u8 ((octet x total).toNat % 4 * 16)
    have eb : byteArr [tabI ((octet x total).toNat / 4), tabI ((octet x total).toNat % 4 * 16), 61, 61] = #[(tabI ((octet x total).toNat / 4)).toNat.toUInt8, (tabI ((octet x total).toNat % 4 * 16)).toNat.toUInt8, 61, 61] := rfl
    rw [eo] at SA
    clear hq
    refine r_bytes ok.hh SA (SA.new (.head _)).weak (intsOne _ _) (by intro k hk; rw [List.mem_singleton.mp hk]; exact octet_in x total) (by simp) ?_
    intro tB sB SB
    walk_at "m.go"
    refine b64_spec (c := (octet x total).toNat.toUInt8) Wg (ST.keep (by assumption)) ok.deeper ?_
    intro sC uC eC kC
    have SC := SB.call0 eC kC
    rw [hc, eb]
    walk_at "m.go"
    refine KBd.method ?_
    walk_at "m.go"
    rename_i SD
    refine r_decode SD (by omega) (by omega) (by decide) (by decide) ?_
    intro tE sE SE
    rw [u1, u2]
    walk_at "m.go"
    exact h _ _ SE.same (SE.keeps hsg)
end
/-- a dict of ints by ints: the list of its items -/
inductive PI : List (Int × Value) → List (Int × Int) → Prop
  | nil : PI [] []
  | cons {k p : Int} {t : Tok} {kvs : List (Int × Value)} {D : List (Int × Int)} : PI kvs D → PI ((k, .int p t) :: kvs) ((k, p) :: D)
def getI (D : List (Int × Int)) (k : Int) : Option Int := (D.find? fun kv => decide (kv.1 = k)).map (·.2)
def putI (D : List (Int × Int)) (k p : Int) : List (Int × Int) := if D.any (fun kv => decide (kv.1 = k)) then D.map (fun kv => if kv.1 = k then (kv.1, p) else kv) else D ++ [(k, p)]
theorem PI.length {kvs : List (Int × Value)} {D : List (Int × Int)} (h : PI kvs D) : kvs.length = D.length := by
  induction h with
  | nil => rfl
  | cons _ ih => simp [ih]
theorem PI.keys {kvs : List (Int × Value)} {D : List (Int × Int)} (h : PI kvs D) : kvs.map (·.1) = D.map (·.1) := by
  induction h with
  | nil => rfl
  | cons _ ih => simp [ih]
theorem PI.get {kvs : List (Int × Value)} {D : List (Int × Int)} (h : PI kvs D) : ∀ {i : Nat} {k p : Int}, D[i]? = some (k, p) → ∃ t, kvs[i]? = some (k, .int p t) := by
  induction h with
  | nil => intro i k p e; simp at e
  | cons _ ih =>
    intro i k p e
    cases i with
    | zero => simp at e; obtain ⟨rfl, rfl⟩ := e; exact ⟨_, rfl⟩
    | succ j => simp at e ⊢; exact ih e
theorem PI.value {kvs : List (Int × Value)} {D : List (Int × Int)} (h : PI kvs D) (k : Int) : (valueAt kvs k).isSome = (getI D k).isSome ∧ ∀ p, getI D k = some p → ∃ t, valueAt kvs k = some (.int p t) := by
  induction h with
  | nil => exact ⟨rfl, fun p e => by simp [getI] at e⟩
  | @cons k' p' t kvs D _ ih =>
    by_cases hk : k' = k
    · subst hk
      refine ⟨by simp [valueAt, getI], fun p e => ?_⟩
      simp [getI] at e
      subst e
      exact ⟨t, by simp [valueAt]⟩
    · have e1 : valueAt ((k', Value.int p' t) :: kvs) k = valueAt kvs k := by simp [valueAt, hk]
      have e2 : getI ((k', p') :: D) k = getI D k := by simp [getI, hk]
      rw [e1, e2]; exact ih
theorem PI.put {kvs : List (Int × Value)} {D : List (Int × Int)} (h : PI kvs D) (k p : Int) (t : Tok) : PI (stored kvs k (.int p t)) (putI D k p) := by
  have ha : ∀ {kvs : List (Int × Value)} {D : List (Int × Int)}, PI kvs D → (kvs.any fun kv => decide (kv.1 = k)) = D.any fun kv => decide (kv.1 = k) := by
    intro kvs D h
    induction h with
    | nil => rfl
    | cons _ ih => simp only [List.any_cons, ih]
  have hm : ∀ {kvs : List (Int × Value)} {D : List (Int × Int)}, PI kvs D → PI (kvs.map (fun kv => if kv.1 = k then (kv.1, .int p t) else kv)) (D.map (fun kv => if kv.1 = k then (kv.1, p) else kv)) := by
    intro kvs D h
    induction h with
    | nil => exact .nil
    | @cons k' p' t' kvs D _ ih =>
      simp only [List.map_cons]
      by_cases q : k' = k
      · simp only [q, if_true]; exact .cons ih
      · simp only [q, if_false]; exact .cons ih
  have hs : ∀ {kvs : List (Int × Value)} {D : List (Int × Int)}, PI kvs D → PI (kvs ++ [(k, .int p t)]) (D ++ [(k, p)]) := by
    intro kvs D h
    induction h with
    | nil => exact .cons .nil
    | cons _ ih => exact .cons ih
  unfold stored putI
  rw [ha h]
  split
  · exact hm h
  · exact hs h
def isD (w : World) (D : List (Int × Int)) (ep : Nat) : Pd := fun o => ∃ es kvs, o.ExactDict ∧ o.data = .dict es ep ∧ KeysOf (intKind PR w) es ∧ Pairs (intKind PR w) es.toList kvs ∧ (kvs.map (·.1)).Nodup ∧ PI kvs D
def isDx (w : World) (D : List (Int × Int)) : Pd := fun o => ∃ ep, isD w D ep o
section
variable {w : World} {A : Around} {E : Value → Shared → Prop} {s₀ s : Shared} {g : Heap} {L : Addr} {ns : List Str} {vs : List (Option Value)} {nw nw' : List (Addr × Pd)} {env : Env} {d : Addr} {D : List (Int × Int)} {ep : Nat}
theorem dAt {h : Heap} (x : At h d (isD w D ep)) : ∃ kvs, h.DictAt (intKind PR w) d kvs ep ∧ PI kvs D := let ⟨o, e, es, kvs, a, b, c, p, n, i⟩ := x; ⟨kvs, ⟨o, es, e, a, b, c, p, n⟩, i⟩
theorem dOf {h : Heap} (x : At h d (isDx w D)) : ∃ kvs, h.DictOf (intKind PR w) d kvs ∧ PI kvs D := let ⟨o, e, ep, es, kvs, a, b, c, p, n, i⟩ := x; ⟨kvs, ⟨o, es, ep, e, a, b, c, p, n⟩, i⟩
theorem atD {h : Heap} {kvs : List (Int × Value)} (x : h.DictOf (intKind PR w) d kvs) (i : PI kvs D) : At h d (isDx w D) := let ⟨o, es, ep, e, a, b, c, p, n⟩ := x; ⟨o, e, ep, es, kvs, a, b, c, p, n, i⟩
theorem At.dx {h : Heap} (x : At h d (isD w D ep)) : At h d (isDx w D) := x.imp fun _ p => ⟨ep, p⟩
theorem At.dnodup {h : Heap} (x : At h d (isDx w D)) : (D.map (·.1)).Nodup := by
  obtain ⟨kvs, ⟨o, es, ep, e, a, b, c, p, n⟩, i⟩ := dOf x
  rw [← i.keys]; exact n
theorem ST.epoch (S : ST s₀ g L ns vs nw s) (m : (d, isDx w D) ∈ nw) : ∃ ep, At s.heap d (isD w D ep) := let ⟨o, e, ep, p⟩ := S.new m; ⟨ep, o, e, p⟩
/-- a new fact of an object of the ledger, nothing changed -/
theorem ST.note (S : ST s₀ g L ns vs nw s) {P : Pd} (up : Up d P nw nw') (h : At s.heap d P) : ST s₀ g L ns vs nw' s := S.upd up h (fun _ _ _ e => e) .rfl
theorem notMod (W : Wld w g) (h : g.objs.size ≤ d) : (d == sysModules) = false := beq_eq_false_iff_ne.mpr (Nat.ne_of_gt (Nat.lt_of_lt_of_le (modules_low W.nl) h))
theorem r_dnew {pos : Pos} {Q : Value → Shared → Prop} (S : ST s₀ g L ns vs nw s) (h : ∀ d s', ST s₀ g L ns vs ((d, isDx w []) :: nw) s' → g.objs.size ≤ d → Q (.ref d) s') : wpAny (model PR w) A (eval (.Dict [] [] pos) env) Q E s :=
  wpAny_Dict_empty (h _ _ (S.push (P := isDx w []) ⟨0, #[], [], ⟨rfl, rfl, rfl⟩, rfl, fun _ he => by simp at he, Pairs.nil, List.nodup_nil, .nil⟩) (Nat.le_trans S.above (Nat.le_of_lt S.lt)))
theorem r_dget {value slice : Expr} {k p : Int} {u : Tok} {Q : Value → Shared → Prop} (S : ST s₀ g L ns vs nw s) (hd : At s.heap d (isDx w D)) (hk : getI D k = some p) (h : ∀ t s', ST s₀ g L ns vs nw s' → Q (.int p t) s')
    (hs : subscripted slice false (.ref d) (.int k u) = operate [.ref d, .int k u] (getItem (.ref d) (.int k u)) := by with_unfolding_all rfl) :
    wpAny (model PR w) A (subscriptTail value slice (.ref d) (.int k u)) Q E s := by
  obtain ⟨kvs, hm, i⟩ := dOf hd
  obtain ⟨t, ht⟩ := (i.value k).2 p hk
  exact tail_any hm.typeIs slot_dict_getitem.lookup (wpAny_getItem_of (intKind_is _ _ _ _) hm.mapOf ht (h t _ S.tok)) hs
theorem r_dnotin {k : Int} {u : Tok} {Q : Value → Shared → Prop} (S : ST s₀ g L ns vs nw s) (W : Wld w g) (hd : At s.heap d (isDx w D)) (hg : g.objs.size ≤ d) (h : ∀ s', ST s₀ g L ns vs nw s' → Q (.bool (!(getI D k).isSome)) s') :
    wpAny (model PR w) A (compareOp .NotIn (.int k u) (.ref d)) Q E s := by
  obtain ⟨kvs, hm, i⟩ := dOf hd
  refine wpAny_notIn_of (intKind_is _ _ _ _) (notMod W hg) hm.mapOf ?_
  rw [(i.value k).1]
  exact h _ S.tok
theorem r_dset {k p : Int} {t u : Tok} {Q : Unit → Shared → Prop} (S : ST s₀ g L ns vs nw s) (hd : At s.heap d (isDx w D)) (hz : D.length ≤ 1000) (up : Up d (isDx w (putI D k p)) nw nw') (h : ∀ s', ST s₀ g L ns vs nw' s' → Q () s') :
    wpAny (model PR w) A (setItem (.ref d) (.int k t) (.int p u)) Q E s := by
  obtain ⟨kvs, hm, i⟩ := dOf hd
  exact wpAny_setItem_pairs (intKind_is _ _ _ _) hm (fun h' hm' hs => h _ (S.upd (s' := { s with heap := h', toks := s.toks + 1 }) up (atD hm' (i.put k p u)) (fun b o n e => (hs.2 b n).trans e) ⟨rfl, rfl, rfl⟩)) (by rw [i.length, sizeLine_eq]; omega)
def isKI (d : Addr) (n ep i : Nat) : Pd := fun o => o.cls = .type "dict_keyiterator" ∧ o.data = .fields #[.ref d, .int i 0, .int n 0, .int ep 0]
theorem itr_dict {I : Addr} (hh : A.handled = none) : Itr w A I D.length (fun i v => ∃ k p t, D[i]? = some (k, p) ∧ v = .int k t) (isKI d D.length ep) (fun h => At h d (isD w D ep)) := by
  refine ⟨fun i s Q hi hI hl h => ?_, fun s Q hI hl h => ?_, fun i s v target Q hI h => ?_⟩
  · obtain ⟨o, ho, r⟩ := hI
    obtain ⟨kvs, hm, pi⟩ := dAt hl
    obtain ⟨t, hx⟩ := pi.get (i := i) (k := D[i].1) (p := D[i].2) (by simp [hi])
    rw [← pi.length] at r
    refine wpAny_pyNext_dict_item (knd := intKind PR w) ⟨o, ho, r⟩ hm hx fun key h' hk hi' hs => ?_
    obtain ⟨t', rfl⟩ := Value.isInt_shape hk
    refine h _ _ ⟨D[i].1, D[i].2, t', by simp [hi], rfl⟩ ?_ (fun b o n e => (hs.2 b n).trans e) ⟨rfl, rfl, rfl⟩
    rw [← pi.length]; exact hi'
  · obtain ⟨o, ho, r⟩ := hI
    obtain ⟨kvs, hm, pi⟩ := dAt hl
    rw [← pi.length] at r
    exact wpAny_pyNext_dict_end (knd := intKind PR w) hh ⟨o, ho, r⟩ hm (by simp) fun h' he => h _ (fun b o n e => he b o n e) ⟨rfl, rfl, rfl⟩
  · obtain ⟨o, ho, r⟩ := hI
    exact owned_no ho r.1 (by decide +kernel) h
theorem starts_dict (hh : A.handled = none) (hm : (d == sysModules) = false) (hd : At s.heap d (isD w D ep)) : Starts w A (.ref d) s D.length (fun i v => ∃ k p t, D[i]? = some (k, p) ∧ v = .int k t) (isKI d D.length ep) (fun h => At h d (isD w D ep)) := by
  obtain ⟨kvs, hk, pi⟩ := dAt hd
  refine ⟨{ cls := .type "dict_keyiterator", data := .fields #[.ref d, .int 0 0, .int D.length 0, .int ep 0] }, ⟨rfl, rfl⟩, rfl, fun Q E h => wpAny_pyIter_dict hm hk ?_, fun I => itr_dict hh, fun I i s Q E hI h => ?_⟩
  · rw [pi.length]; exact h
  · obtain ⟨o, ho, r⟩ := hI
    exact wpAny_pyIter_keyiter ⟨o, ho, r⟩ h
/-- for target in a dict -/
theorem r_for_dict {target : Expr} {body : List Stmt} {Q : Flow → Shared → Prop} (hh : A.handled = none)
    (J : Nat → List (Option Value) → List (Addr × Pd) → Prop) (P : List (Option Value) → List (Addr × Pd) → Prop)
    (S : ST s₀ g L ns vs nw s) (hm : (d == sysModules) = false) (hd : At s.heap d (isD w D ep)) (hJ : J 0 vs nw)
    (side : ∀ i vs nw s, J i vs nw → ST s₀ g L ns vs nw s → At s.heap d (isD w D ep))
    (turn : ∀ I i k p t vs nw P0 s, i < D.length → D[i]? = some (k, p) → J i vs nw → ST s₀ g L ns vs ((I, P0) :: nw) s →
      wpAny (model PR w) A (assign target env (.int k t)) (fun _ s₂ => wpAny (model PR w) A (execs body env) (FStep s₀ g L ns I P0 (J (i + 1)) P Q) (fun _ _ => False) s₂) (fun _ _ => False) s)
    (done : ∀ vs nw s, J D.length vs nw ∨ P vs nw → ST s₀ g L ns vs nw s → Q .next s) :
    wpAny (model PR w) A (pyIter (.ref d)) (fun it s₂ => codeAny (model PR w) A (.forLoop target it body [] env) (fun r s' => match r with | .ok f => Q f s' | .error e => cameBackBy (model PR w) A env (fun _ _ => False) e s') s₂) (fun _ _ => False) s := by
  obtain ⟨kvs, hk, pi⟩ := dAt hd
  refine wpAny_pyIter_dict hm hk ?_
  rw [pi.length]
  exact loopI (itr_dict hh) J P (S.push (P := isKI d D.length ep 0) ⟨rfl, rfl⟩) hJ (fun i vs nw P0 s j S' => side i vs nw s j S'.tail) (fun i v vs nw P0 s hi hv j S' => by obtain ⟨k, p, t, h1, rfl⟩ := hv; exact turn _ i k p t vs nw P0 s hi h1 j S') done
theorem r_for_dictN {target : Expr} {body : List Stmt} {Q : Flow → Shared → Prop} (hh : A.handled = none)
    (J : Nat → List (Option Value) → List (Addr × Pd) → Prop) (P : List (Option Value) → List (Addr × Pd) → Prop)
    (S : ST s₀ g L ns vs nw s) (hm : (d == sysModules) = false) (hd : At s.heap d (isD w D ep)) (hJ : J 0 vs nw)
    (side : ∀ i vs nw s, J i vs nw → ST s₀ g L ns vs nw s → At s.heap d (isD w D ep))
    (turn : ∀ I i k p t vs nw P0 s (QQ : Flow → Shared → Prop), (∀ fl s', FStep s₀ g L ns I P0 (J (i + 1)) P (fun _ _ => False) fl s' → QQ fl s') → i < D.length → D[i]? = some (k, p) → J i vs nw → ST s₀ g L ns vs ((I, P0) :: nw) s →
      wpAny (model PR w) A (assign target env (.int k t)) (fun _ s₂ => wpAny (model PR w) A (execs body env) QQ (fun _ _ => False) s₂) (fun _ _ => False) s)
    (done : ∀ vs nw s, J D.length vs nw ∨ P vs nw → ST s₀ g L ns vs nw s → Q .next s) :
    wpAny (model PR w) A (pyIter (.ref d)) (fun it s₂ => codeAny (model PR w) A (.forLoop target it body [] env) (fun r s' => match r with | .ok f => Q f s' | .error e => cameBackBy (model PR w) A env (fun _ _ => False) e s') s₂) (fun _ _ => False) s :=
  r_for_dict hh J P S hm hd hJ side (fun I i k p t vs nw P0 s hi hk j S' => turn I i k p t vs nw P0 s _ (fun _ _ q => q.any) hi hk j S') done
/-- {0: 0} -/
theorem r_d00 {k1 k2 : Nat} {p1 p2 pos : Pos} {Q : Value → Shared → Prop} (S : ST s₀ g L ns vs nw s) (h : ∀ d s', ST s₀ g L ns vs ((d, isDx w [(0, 0)]) :: nw) s' → g.objs.size ≤ d → Q (.ref d) s') :
    wpAny (model PR w) A (eval (.Dict [some (.Constant (.int 0) k1 p1)] [.Constant (.int 0) k2 p2] pos) env) Q E s := by
  refine wpAny_Dict_pairs (knd := intKind PR w) (pairs := [(eval (.Constant (.int 0) k1 p1) env, do let x ← eval (.Constant (.int 0) k2 p2) env; standAt pos; pure x)]) rfl (by simp) (by simp) ?_
  refine evalPairs_cons (wpAny_Constant_int (wpAny_bind (wpAny_Constant_int (wpAny_bind (wpAny_standAt (wpAny_pure (evalPairs_nil ?_)))))))
  refine ⟨[(0, .int 0 _)], ⟨intKind_is _ _ _ _, rfl, trivial⟩, Heap.DictOf.new s.heap, fun h' hm hs => ?_⟩
  have S1 := S.push (o := { cls := .type "dict", data := .dict #[] }) (P := isDx w []) ⟨0, #[], [], ⟨rfl, rfl, rfl⟩, rfl, fun _ he => by simp at he, Pairs.nil, List.nodup_nil, .nil⟩
  exact h _ _ (S1.upd (s' := _) .head (atD hm (.cons .nil)) (fun b o n e => (hs.2 b n).trans e) ⟨rfl, rfl, rfl⟩) (Nat.le_trans S.above (Nat.le_of_lt S.lt))
theorem r_min {l : Addr} {iv : List Value} {ks : List Int} {Q : Value → Shared → Prop} (hh : A.handled = none) (S : ST s₀ g L ns vs nw s) (hl : At s.heap l (isL iv.toArray)) (hi : IntsAre iv ks) (hne : 0 < ks.length)
    (h : ∀ M t s', M ∈ ks → (∀ a ∈ ks, M ≤ a) → ST s₀ g L ns vs [] s' → Q (.int M t) s') : wpAny (model PR w) A (call (.builtin "min") [.ref l]) Q E s := by
  obtain ⟨m, hm, hr⟩ := S.loc
  refine min_list_N (news := []) hh ⟨hm, S.keep, S.above⟩ (by intro p hp; simp at hp) hl hi hne ?_
  intro h' M t tk F' _ h1 h2
  exact h M t _ h1 h2 ⟨⟨m, F'.ns, hr⟩, S.nsd, F'.keep, S.off, S.above, by simp, by simp, S.same.trans ⟨rfl, rfl, rfl⟩⟩
end
abbrev band (a b : Int) : Int := Builtin.bitAnd a b
def relax (F : List (Int × Int)) (price way : Int) : List (Int × Int) :=
  match getI F way with
  | none => putI F way price
  | some p => if price < p then putI F way price else F
def waysOf (size room mask bit : Int) : List Int :=
  if band mask bit ≠ 0 then [mask] else if size < room then [mask + bit] else ([1, 2, 4, 8, 16].filter fun old => decide (band mask old ≠ 0)).map fun old => mask - old + bit
def priceOf (mask bit price : Int) : Int := if band mask bit ≠ 0 then price else price + 1
def grownOf (size room mask bit grown : Int) : Int := if band mask bit ≠ 0 then grown else if size < room then size + 1 else grown
def dturn (size room bit : Int) (st : List (Int × Int) × Int) (e : Int × Int) : List (Int × Int) × Int :=
  ((waysOf size room e.1 bit).foldl (fun F way => relax F (priceOf e.1 bit e.2) way) st.1, grownOf size room e.1 bit st.2)
def dstep (room : Int) (st : List (Int × Int) × Int) (kind : Int) : List (Int × Int) × Int := st.1.foldl (dturn st.2 room (2 ^ kind.toNat)) ([], st.2)
def drun (room : Int) (ks : List Int) : List (Int × Int) × Int := ks.foldl (dstep room) ([(0, 0)], 0)
/-- the masks are those of five kinds -/
def In32 (D : List (Int × Int)) : Prop := ∀ e ∈ D, 0 ≤ e.1 ∧ e.1 < 32
theorem nodup_len : ∀ (n : Nat) (l : List Int), l.Nodup → (∀ x ∈ l, 0 ≤ x ∧ x < n) → l.length ≤ n
  | 0, l, _, h => by
    cases l with
    | nil => simp
    | cons a r => have := h a (.head _); omega
  | n + 1, l, nd, h => by
    have h1 := nodup_len n (l.filter fun x => decide (x ≠ (n : Int))) (nd.filter _) (fun x m => by
      obtain ⟨m1, m2⟩ := List.mem_filter.mp m
      have := h x m1
      have m2' : x ≠ (n : Int) := of_decide_eq_true m2
      omega)
    have h2 : ∀ l : List Int, l.Nodup → l.length ≤ (l.filter fun x => decide (x ≠ (n : Int))).length + 1 := by
      intro l nd
      induction l with
      | nil => simp
      | cons a r ih =>
        rw [List.nodup_cons] at nd
        by_cases q : a = (n : Int)
        · rw [List.filter_cons_of_neg (by simpa using q)]
          have : r.filter (fun x => decide (x ≠ (n : Int))) = r := List.filter_eq_self.mpr fun x m => decide_eq_true fun e => nd.1 (by rw [q, ← e]; exact m)
          rw [this, List.length_cons]; omega
        · rw [List.filter_cons_of_pos (by simpa using q), List.length_cons, List.length_cons]
          have := ih nd.2
          omega
    have := h2 l nd
    omega
theorem In32.len {D : List (Int × Int)} (h : In32 D) (nd : (D.map (·.1)).Nodup) : D.length ≤ 32 := by
  have := nodup_len 32 (D.map (·.1)) nd (fun x m => by obtain ⟨e, m', rfl⟩ := List.mem_map.mp m; exact h e m')
  rwa [List.length_map] at this
theorem putI_mem {D : List (Int × Int)} {k p : Int} {e : Int × Int} (h : e ∈ putI D k p) : e.1 = k ∨ e ∈ D := by
  unfold putI at h
  split at h
  · obtain ⟨x, m, rfl⟩ := List.mem_map.mp h
    split
    · rename_i q; exact .inl q
    · exact .inr m
  · rcases List.mem_append.mp h with m | m
    · exact .inr m
    · rw [List.mem_singleton.mp m]; exact .inl rfl
theorem relax_mem {F : List (Int × Int)} {price way : Int} {e : Int × Int} (h : e ∈ relax F price way) : e.1 = way ∨ e ∈ F := by
  unfold relax at h
  split at h
  · exact putI_mem h
  · split at h
    · exact putI_mem h
    · exact .inr h
theorem In32.rlx {F : List (Int × Int)} {price way : Int} (h : In32 F) (hw : 0 ≤ way ∧ way < 32) : In32 (relax F price way) := fun e m => by
  rcases relax_mem m with q | q
  · rw [q]; exact hw
  · exact h e q
theorem bit32 : ∀ (m : Fin 32) (k : Fin 5), band (m.val : Int) (2 ^ k.val) = 0 → (m.val : Int) + 2 ^ k.val < 32 := by decide +kernel
theorem old32 : ∀ (m : Fin 32) (k : Fin 5), band (m.val : Int) (2 ^ k.val) = 0 → ∀ o ∈ [(1 : Int), 2, 4, 8, 16], band (m.val : Int) o ≠ 0 → 0 ≤ (m.val : Int) - o + 2 ^ k.val ∧ (m.val : Int) - o + 2 ^ k.val < 32 := by decide +kernel
theorem ways32 {size room mask : Int} {k : Nat} (hk : k < 5) (hm : 0 ≤ mask ∧ mask < 32) : ∀ y ∈ waysOf size room mask (2 ^ k), 0 ≤ y ∧ y < 32 := by
  obtain ⟨m, rfl⟩ := Int.eq_ofNat_of_zero_le hm.1
  have hp : (0 : Int) < 2 ^ k := Int.pow_pos (by omega)
  have b1 := bit32 ⟨m, by omega⟩ ⟨k, hk⟩
  have b2 := old32 ⟨m, by omega⟩ ⟨k, hk⟩
  dsimp only at b1 b2
  unfold waysOf
  intro y hy
  split at hy
  · rw [List.mem_singleton.mp hy]; exact hm
  · rename_i q
    have q' := Decidable.not_not.mp q
    split at hy
    · rw [List.mem_singleton.mp hy]; have := b1 q'; omega
    · obtain ⟨o, mo, rfl⟩ := List.mem_map.mp hy
      obtain ⟨m1, m2⟩ := List.mem_filter.mp mo
      exact b2 q' o m1 (of_decide_eq_true m2)
theorem In32.fold {price : Int} : ∀ {l : List Int} {F : List (Int × Int)}, In32 F → (∀ y ∈ l, 0 ≤ y ∧ y < 32) → In32 (l.foldl (fun F way => relax F price way) F)
  | [], F, h, _ => h
  | y :: l, F, h, hl => by
    rw [List.foldl_cons]
    exact In32.fold (l := l) (F := relax F price y) (h.rlx (hl y (.head _))) fun z m => hl z (.tail _ m)
theorem In32.turn {size room : Int} {k : Nat} (hk : k < 5) : ∀ {l : List (Int × Int)} {st : List (Int × Int) × Int}, In32 st.1 → In32 l → In32 (l.foldl (dturn size room (2 ^ k)) st).1
  | [], st, h, _ => h
  | e :: l, st, h, hl => In32.turn hk (st := dturn size room (2 ^ k) st e) (In32.fold h (ways32 hk (hl e (.head _)))) fun z m => hl z (.tail _ m)
theorem In32.run {room : Int} : ∀ {ks : List Int} {st : List (Int × Int) × Int}, In32 st.1 → (∀ k ∈ ks, 0 ≤ k ∧ k < 5) → In32 (ks.foldl (dstep room) st).1
  | [], st, h, _ => h
  | k :: ks, st, h, hl => In32.run (st := dstep room st k) (In32.turn (by have := hl k (.head _); omega) (by intro e m; simp at m) h) fun z m => hl z (.tail _ m)
theorem drun32 {room : Int} {ks : List Int} (h : ∀ k ∈ ks, 0 ≤ k ∧ k < 5) : In32 (drun room ks).1 := In32.run (by intro e m; simp at m; subst m; decide) h
theorem getI_of_mem {D : List (Int × Int)} (nd : (D.map (·.1)).Nodup) {i : Nat} {k p : Int} (h : D[i]? = some (k, p)) : getI D k = some p := by
  induction D generalizing i with
  | nil => simp at h
  | cons e r ih =>
    rw [List.map_cons, List.nodup_cons] at nd
    cases i with
    | zero => simp at h; subst h; simp [getI]
    | succ j =>
      simp at h
      have hne : e.1 ≠ k := fun q => nd.1 (by rw [q]; exact List.mem_map_of_mem (f := (·.1)) (List.mem_of_getElem? h))
      have := ih nd.2 h
      unfold getI at this ⊢
      rw [List.find?_cons_of_neg (by simpa using hne)]
      exact this
local macro_rules | `(tactic| walk_at "binaryOp Pow int int") => `(tactic| (with_reducible (refine r_pow (by assumption) ?_ ?_ ?_ ?_); (first | decide | omega); (first | decide | omega); (first | decide | omega); intro _ _ _))
local macro_rules | `(tactic| walk_at "eval Dict") => `(tactic| (first | (refine r_d00 (by assumption) ?_; intro _ _ _ _) | (refine r_dnew (by assumption) ?_; intro _ _ _ _)))
local macro_rules | `(tactic| walk_at "eval Dict nil nil") => `(tactic| ((refine r_dnew (by assumption) ?_; intro _ _ _ _)))
local macro_rules | `(tactic| walk_at "eval Dict cons cons") => `(tactic| ((refine r_d00 (by assumption) ?_; intro _ _ _ _)))
section
variable {w : World} {A : Around} {E : Value → Shared → Prop} {s₀ s : Shared} {g : Heap} {L : Addr} {ns : List Str} {vs : List (Option Value)} {nw nw' : List (Addr × Pd)} {env : Env}
abbrev fns : List Str := [Str.ofString "kinds", Str.ofString "room", Str.ofString "size", Str.ofString "kind", Str.ofString "fresh", Str.ofString "grown", Str.ofString "price", Str.ofString "ways", Str.ofString "way"]
def AtWays (w : World) (s : Shared) (g : Heap) (L kl : Addr) (room : Int) (t : Tok) (size : Int) (u : Tok) (k : Nat) (t2 : Tok) (f : Addr) (y6 : Option Value) (I2 : Addr) (P2 : Pd) (I : Addr) (P0 : Pd) (mask : Int) (tm : Tok) (bit : Int) (tb : Tok) (d : Addr) (D : List (Int × Int)) (ep : Nat) (F : List (Int × Int)) (grown p : Int) (wl : Addr) (s' : Shared) : Prop :=
  ∃ wv gr ug pr tp, IntsAre wv (waysOf size room mask bit) ∧ gr = grownOf size room mask bit grown ∧ pr = priceOf mask bit p ∧
    ST s g L fns [some (.ref kl), some (.int room t), some (.int size u), some (.int k t2), some (.ref f), some (.int gr ug), some (.int pr tp), some (.ref wl), y6]
      ((wl, isLx (List.toArray wv)) :: (I2, P2) :: (I, P0) :: (L + 1 + 1 + 1, isC (some (.int mask tm))) :: (L + 1 + 1, isC (some (.int bit tb))) :: (L + 1, isC (some (.ref d))) :: (d, isD w D ep) :: (f, isDx w F) :: []) s'
theorem fewest_spec {kl : Addr} {b : Heap} {ks : List Int} {kv : List Value} {room : Int} {t : Tok} {Q : Value → Shared → Prop} (W : Wld w b) (hb : ∀ a o, b.get? a = some o → s.heap.get? a = some o) (ok : Ok A 1)
    (hl : At s.heap kl (isL kv.toArray)) (hs : IntsAre kv ks) (hz : ks.length < 900) (hk5 : ∀ k ∈ ks, 0 ≤ k ∧ k < 5) (hne : (drun room ks).1 ≠ [])
    (h : ∀ s' M u, Same s s' → Keeps [] s.heap s'.heap → M ∈ (drun room ks).1.map (·.2) → (∀ a ∈ (drun room ks).1.map (·.2), M ≤ a) → Q (.int M u) s') :
    wpAny (model PR w) A (call (.ref 271) [.ref kl, .int room t]) Q E s := by
  refine wpAny_call ?_
  refine enterC [(Str.ofString "kinds", .ref kl), (Str.ofString "room", .int room t)] [Str.ofString "kinds", Str.ofString "room", Str.ofString "size", Str.ofString "kind", Str.ofString "fresh", Str.ofString "grown", Str.ofString "price", Str.ofString "ways", Str.ofString "way"]
    [some (.ref kl), some (.int room t), none, none, none, none, none, none, none] (fun L => [(Str.ofString "mask", L + 1 + 1 + 1), (Str.ofString "bit", L + 1 + 1), (Str.ofString "held", L + 1)]) (fun L => [(L + 1 + 1 + 1, isC none), (L + 1 + 1, isC none), (L + 1, isC none)]) []
    W hb (by simp) (by simp) rfl rfl ok.room rfl ?_ (by decide +kernel) ?_ ?_ ?_ ?_ ?_
  · exact kindsX rfl
  · intro L
    walk_at "m.hvs"
  · exact fun L => rfl
  · exact fun L => rfl
  · intro L; show [Str.ofString "mask", Str.ofString "bit", Str.ofString "held"].Nodup; decide +kernel
  intro g L s1 hbg hsg hgs Wg S
  simp only [List.cons_append, List.nil_append] at S
  have hlg : At g kl (isL kv.toArray) := (hl.into hsg (by simp))
  have hlen := hs.length
  walk_at "m.go"
  rename_i d0 _ _ hd0 _ _ _ _ _ _ S1
  have hst : ∀ i, (hi : i < ks.length) → drun room (ks.take (i + 1)) = dstep room (drun room (ks.take i)) ks[i] := fun i hi => by
    unfold drun
    rw [List.take_add_one, List.getElem?_eq_getElem hi, Option.toList_some, List.foldl_append, List.foldl_cons, List.foldl_nil]
  have S1' := S1.weak (nw' := [(L + 1 + 1 + 1, isC none), (L + 1 + 1, isC none), (L + 1, isC (some (.ref d0))), (d0, isDx w [(0, 0)])]) (by intro p hp; simp at hp ⊢; grind) (by have := S1.nd; simp at this ⊢; grind)
  clear S1
  refine r_for_listN (l := kl) (items := kv.toArray) ok.hh (fun i vs nw => ∃ d o x1 x2 x3 x4 x5 x6 cm cb, nw = [(L + 1 + 1 + 1, isC cm), (L + 1 + 1, isC cb), (L + 1, isC (some (.ref d))), (d, isDx w (drun room (ks.take i)).1)] ∧
      vs = [some (.ref kl), some (.int room t), o, x1, x2, x3, x4, x5, x6] ∧ isI (drun room (ks.take i)).2 o ∧ g.objs.size ≤ d) (fun _ _ => False) S1' (S1'.old hlg) ⟨d0, _, _, _, _, _, _, _, _, _, rfl, rfl, isI.mk rfl, hd0⟩ (fun _ _ _ _ _ S' => S'.old hlg) ?_ ?_
  · rintro I i v vs nw P0 s2 QQ hQQ hi hv ⟨d, o, x1, x2, x3, x4, x5, x6, cm, cb, rfl, rfl, ⟨u, rfl⟩, hd⟩ S2
    have hi' : i < ks.length := by rw [← hlen]; simpa using hi
    obtain ⟨t2, e2⟩ := hs.get i ks[i] (List.getElem?_eq_getElem hi')
    rw [List.getElem?_toArray, e2] at hv
    cases hv
    have hk := hk5 ks[i] (List.getElem_mem hi')
    obtain ⟨k, hkk, hk5'⟩ : ∃ k : Nat, ks[i] = (k : Int) ∧ k < 5 := ⟨ks[i].toNat, by omega, by omega⟩
    have hD32 : In32 (drun room (ks.take i)).1 := drun32 fun k m => hk5 k (List.mem_of_mem_take m)
    have hnd := (S2.new (a := d) (.tail _ (.tail _ (.tail _ (.tail _ (.head _)))))).dnodup
    have hDl := hD32.len hnd
    have hstep := hst i hi'
    rw [hkk] at hstep ⊢
    obtain ⟨⟨D, size⟩, hD⟩ : ∃ st, drun room (ks.take i) = st := ⟨_, rfl⟩
    rw [hD] at S2 hD32 hstep hnd hDl
    dsimp only at S2 hD32 hnd hDl
    clear S1' hd0
    iterate 7 (first | walk1 | (dsimp only; walk1))
    rename_i S3
    refine r_pow (a := 2) (b := (k : Int)) S3 (by omega) (by omega) (by decide) ?_
    intro tb s4 S4
    have h2k : (2 : Int) ^ (k : Int).toNat = 2 ^ k := by rw [Int.toNat_natCast]
    rw [h2k]
    rw [dstep, h2k] at hstep
    clear S3 S2
    iterate 9 (first | walk1 | (dsimp only; walk1))
    rename_i f _ _ hf _ _ s5 S5
    clear S4
    have S6 := S5.weak (nw' := [(I, P0), (L + 1 + 1 + 1, isC cm), (L + 1 + 1, isC (some (.int (2 ^ k) tb))), (L + 1, isC (some (.ref d))), (d, isDx w D), (f, isDx w [])]) (by intro p hp; simp at hp ⊢; grind) (by have := S5.nd; simp at this ⊢; grind)
    clear S5
    iterate 3 (first | walk1 | (dsimp only; walk1))
    obtain ⟨ep, hep⟩ := S6.epoch (d := d) (D := D) (w := w) (by walk_at "m.mem")
    have S7 := S6.note (d := d) (P := isD w D ep) (.tail (.tail (.tail (.tail .head)))) hep
    clear S6
    refine r_for_dictN (d := d) (D := D) (ep := ep) ok.hh (fun j vs nw => ∃ F grown o y4 y5 y6 cm, nw = [(I, P0), (L + 1 + 1 + 1, isC cm), (L + 1 + 1, isC (some (.int (2 ^ k) tb))), (L + 1, isC (some (.ref d))), (d, isD w D ep), (f, isDx w F)] ∧
        vs = [some (.ref kl), some (.int room t), some (.int size u), some (.int k t2), some (.ref f), o, y4, y5, y6] ∧ isI grown o ∧ (D.take j).foldl (dturn size room (2 ^ k)) ([], size) = (F, grown)) (fun _ _ => False) S7 (notMod Wg hd) hep ⟨_, _, _, _, _, _, _, rfl, rfl, isI.mk rfl, rfl⟩
      (fun j vs nw s ⟨F, grown, o, y4, y5, y6, cm, e1, e2, e3, e4⟩ S' => by subst e1; exact S'.new (by walk_at "m.mem")) ?_ ?_
    · rintro I2 j mask p tm vs nw P2 s8 QR hQR hj hDj ⟨F, grown, o, y4, y5, y6, cm, rfl, rfl, ⟨ug, rfl⟩, hF⟩ S8
      clear S7
      have hm32 := hD32 _ (List.mem_of_getElem? hDj)
      have hget := getI_of_mem hnd hDj
      have hnext : (D.take (j + 1)).foldl (dturn size room (2 ^ k)) ([], size) = dturn size room (2 ^ k) (F, grown) (mask, p) := by
        rw [List.take_add_one, hDj, Option.toList_some, List.foldl_append, List.foldl_cons, List.foldl_nil, hF]
      have hF32 : In32 F := by
        have : In32 ((D.take j).foldl (dturn size room (2 ^ k)) ([], size)).1 := In32.turn hk5' (by intro e m; simp at m) fun e m => hD32 e (List.mem_of_mem_take m)
        rwa [hF] at this
      dsimp only at hm32
      iterate 7 (first | walk1 | (dsimp only; walk1))
      rename_i S9
      refine r_dget S9 (S9.new (a := d) (P := isD w D ep) (by walk_at "m.mem")).dx hget ?_
      intro tp sA SA
      clear S8 S9
      iterate 2 (first | walk1 | (dsimp only; walk1))
      refine wpAny_mono (Q := fun fl s' => fl = .next ∧ ∃ wl, AtWays w s g L kl room t size u k t2 f y6 I2 P2 I P0 mask tm (2 ^ k) tb d D ep F grown p wl s') ?_ ?_ (fun _ _ e => e)
      rotate_left
      focus
        rintro _ sW ⟨rfl, wl, AW⟩
        clear SA
        obtain ⟨wv, gr, ug', pr, tp', hwv, hgr, hpr, SW⟩ := AW
        have hwl := hwv.length
        have w32 := ways32 (size := size) (room := room) hk5' hm32
        dsimp only
        iterate 3 (first | walk1 | (dsimp only; walk1))
        refine r_for_listN (l := wl) (items := wv.toArray) ok.hh (fun i3 vs nw => ∃ F' z6, nw = (wl, isLx (List.toArray wv)) :: (I2, P2) :: (I, P0) :: (L + 1 + 1 + 1, isC (some (.int mask tm))) :: (L + 1 + 1, isC (some (.int (2 ^ k) tb))) :: (L + 1, isC (some (.ref d))) :: (d, isD w D ep) :: (f, isDx w F') :: [] ∧
            vs = [some (.ref kl), some (.int room t), some (.int size u), some (.int k t2), some (.ref f), some (.int gr ug'), some (.int pr tp'), some (.ref wl), z6] ∧ ((waysOf size room mask (2 ^ k)).take i3).foldl (fun F way => relax F pr way) F = F') (fun _ _ => False) SW (SW.new (.head _)).weak ⟨F, _, rfl, rfl, rfl⟩
          (fun i3 vs nw s ⟨F', z6, e1, e2, e3⟩ S' => by subst e1; exact (S'.new (.head _)).weak) ?_ ?_
        · rintro I3 i3 v vs nw P3 sE QT hQT hi3 hv3 ⟨F', z6, rfl, rfl, hF'⟩ SE
          clear SW
          have hi3' : i3 < (waysOf size room mask (2 ^ k)).length := by rw [← hwl]; simpa using hi3
          obtain ⟨way, hway⟩ : ∃ way, (waysOf size room mask (2 ^ k))[i3]? = some way := ⟨_, List.getElem?_eq_getElem hi3'⟩
          obtain ⟨tw, ew⟩ := hwv.get i3 way hway
          rw [List.getElem?_toArray, ew] at hv3
          cases hv3
          have hF32' : In32 F' := hF' ▸ In32.fold hF32 fun y m => w32 y (List.mem_of_mem_take m)
          have hnext' : ((waysOf size room mask (2 ^ k)).take (i3 + 1)).foldl (fun F way => relax F pr way) F = relax F' pr way := by
            rw [List.take_add_one, hway, Option.toList_some, List.foldl_append, List.foldl_cons, List.foldl_nil, hF']
          have hfl := hF32'.len (SE.new (a := f) (P := isDx w F') (by walk_at "m.mem")).dnodup
          iterate 8 (first | walk1 | (dsimp only; walk1))
          rename_i SF
          refine r_dnotin SF Wg (SF.new (a := f) (P := isDx w F') (by walk_at "m.mem")) hf ?_
          intro sG SG
          clear SF SE
          cases hg : getI F' way with
          | none =>
            have hrel : relax F' pr way = putI F' way pr := by rw [relax, hg]
            dsimp only [Option.isSome, Bool.not]
            iterate 8 (first | walk1 | (dsimp only; walk1))
            refine r_dset SG (SG.new (a := f) (P := isDx w F') (by walk_at "m.mem")) (by omega) (by walk_at "m.up") ?_
            intro sH SH
            rw [← hrel] at SH
            iterate 2 (first | walk1 | (dsimp only; walk1))
            exact hQT _ _ ⟨_, _, SH, _, _, rfl, rfl, hnext'⟩
          | some q =>
            dsimp only [Option.isSome, Bool.not]
            iterate 8 (first | walk1 | (dsimp only; walk1))
            refine r_dget SG (SG.new (a := f) (P := isDx w F') (by walk_at "m.mem")) hg ?_
            intro tq sH SH
            clear SG
            iterate 3 (first | walk1 | (dsimp only; walk1))
            · rename_i hlt2
              have hrel : relax F' pr way = putI F' way pr := by rw [relax, hg]; exact if_pos hlt2
              iterate 6 (first | walk1 | (dsimp only; walk1))
              refine r_dset SH (SH.new (a := f) (P := isDx w F') (by walk_at "m.mem")) (by omega) (by walk_at "m.up") ?_
              intro sI SI
              rw [← hrel] at SI
              iterate 2 (first | walk1 | (dsimp only; walk1))
              exact hQT _ _ ⟨_, _, SI, _, _, rfl, rfl, hnext'⟩
            · rename_i hlt2
              have hrel : relax F' pr way = F' := by rw [relax, hg]; exact if_neg hlt2
              walk_at "m.go"
              refine hQT _ _ ⟨_, _, SH, _, _, rfl, rfl, ?_⟩
              rw [hnext', hrel]
        · rintro vs nw sE (⟨F', z6, rfl, rfl, hF'⟩ | hf) SE
          · iterate 1 (first | walk1 | (dsimp only; walk1))
            have htake : (waysOf size room mask (2 ^ k)).take wv.toArray.size = waysOf size room mask (2 ^ k) := by rw [List.size_toArray, hwl, List.take_length]
            rw [htake] at hF'
            refine hQR _ _ ⟨_, _, SE.tail, _, _, _, _, _, _, _, rfl, rfl, isI.mk rfl, ?_⟩
            rw [hnext, dturn]
            dsimp only
            rw [← hpr, ← hgr, hF']
          · exact hf.elim
      iterate 8 (first | walk1 | (dsimp only; walk1))
      focus
        rename_i hq
        iterate 9 (first | walk1 | (dsimp only; walk1))
        rename_i wl _ _ sW SW0
        have hq' : band mask (2 ^ k) ≠ 0 := by simpa using hq
        have AW : AtWays w s g L kl room t size u k t2 f y6 I2 P2 I P0 mask tm (2 ^ k) tb d D ep F grown p wl sW :=
          ⟨_, _, _, _, _, by rw [waysOf, if_pos hq']; exact intsOne _ _, by rw [grownOf, if_pos hq'], by rw [priceOf, if_pos hq'], SW0⟩
        exact ⟨rfl, wl, AW⟩
      focus
        rename_i hq
        iterate 14 (first | walk1 | (dsimp only; walk1))
      focus
        have hlt : size < room := by assumption
        iterate 20 (first | walk1 | (dsimp only; walk1))
        rename_i wl _ _ _ _ _ _ _ _ _ _ sW SW0
        have hq' : ¬ band mask (2 ^ k) ≠ 0 := by simpa using hq
        have AW : AtWays w s g L kl room t size u k t2 f y6 I2 P2 I P0 mask tm (2 ^ k) tb d D ep F grown p wl sW :=
          ⟨_, _, _, _, _, by rw [waysOf, if_neg hq', if_pos hlt]; exact intsOne _ _, by rw [grownOf, if_neg hq', if_pos hlt], by rw [priceOf, if_neg hq'], SW0⟩
        exact ⟨rfl, wl, AW⟩
      focus
        have hlt : ¬ size < room := by assumption
        iterate 15 (first | walk1 | (dsimp only; walk1))
        rename_i to1 _ _ to2 _ _ to3 _ _ to4 _ _ to5 _ _ ol sB SB
        have hols : IntsAre [.int 1 to1, .int 2 to2, .int 4 to3, .int 8 to4, .int 16 to5] [1, 2, 4, 8, 16] := by repeat constructor
        have hl8 := SB.new (a := ol) (.head _)
        have hcM := SB.new (a := L + 1 + 1 + 1) (P := isC (some (.int mask tm))) (by walk_at "m.mem")
        have hcB := SB.new (a := L + 1 + 1) (P := isC (some (.int (2 ^ k) tb))) (by walk_at "m.mem")
        have hq' : ¬ band mask (2 ^ k) ≠ 0 := by simpa using hq
        refine compAt (starts_list ok.hh hl8.weak) (fun i ys => IntsAre ys ((([1, 2, 4, 8, 16].take i).filter fun old => decide (band mask old ≠ 0)).map fun old => mask - old + 2 ^ k)) [Str.ofString "old"] [none] SB (fun s' hk' => let ⟨o, e, p⟩ := hl8.weak; ⟨o, hk' _ _ e, p⟩) ?_ ?_ .nil (by simp) (by decide +kernel) (by intro x v q; cases q with | tail q => cases q) (by decide +kernel) rfl
        focus
          repeat (rename ST _ _ _ _ _ _ _ => hST; clear hST)
          have hcc := And.intro hcM hcB
          clear hcM hcB
          rintro C Ic acc i2 v ys P1 s9 hi2 hv K9 S9
          have hi2' : i2 < 5 := hi2
          obtain ⟨o, ho⟩ : ∃ o, [(1 : Int), 2, 4, 8, 16][i2]? = some o := ⟨_, List.getElem?_eq_getElem hi2'⟩
          obtain ⟨tO, eO⟩ := hols.get i2 o ho
          rw [List.getElem?_toArray, eO] at hv
          cases hv
          have hwl : ((([1, 2, 4, 8, 16].take (i2 + 1)).filter fun old => decide (band mask old ≠ 0)).map fun old => mask - old + 2 ^ k) = if band mask o ≠ 0 then ((([1, 2, 4, 8, 16].take i2).filter fun old => decide (band mask old ≠ 0)).map fun old => mask - old + 2 ^ k) ++ [mask - o + 2 ^ k] else ((([1, 2, 4, 8, 16].take i2).filter fun old => decide (band mask old ≠ 0)).map fun old => mask - old + 2 ^ k) := by
            rw [List.take_add_one, ho, Option.toList_some, List.filter_append, List.map_append]
            by_cases q : band mask o ≠ 0
            · rw [if_pos q, List.filter_cons_of_pos (by simpa using q)]; rfl
            · rw [if_neg q, List.filter_cons_of_neg (by simpa using q)]; simp
          iterate 5 (first | walk1 | (dsimp only; walk1))
          refine r_cell (c := L + 1 + 1 + 1) (ST.old (by assumption) hcc.1) (by kernel_rfl!) ?_ (by kernel_rfl!) (by walk_at "m.kind") (by decide +kernel) (by decide +kernel)
          iterate 4 (first | walk1 | (dsimp only; walk1))
          focus
            rename_i hqo
            have hqo' : band mask o ≠ 0 := by simpa using hqo
            rw [if_pos hqo'] at hwl
            iterate 2 (first | walk1 | (dsimp only; walk1))
            refine r_cell (c := L + 1 + 1 + 1) (ST.old (by assumption) hcc.1) (by kernel_rfl!) ?_ (by kernel_rfl!) (by walk_at "m.kind") (by decide +kernel) (by decide +kernel)
            iterate 2 (first | walk1 | (dsimp only; walk1))
            refine r_cell (c := L + 1 + 1) (ST.old (by assumption) hcc.2) (by kernel_rfl!) ?_ (by kernel_rfl!) (by walk_at "m.kind") (by decide +kernel) (by decide +kernel)
            iterate 1 (first | walk1 | (dsimp only; walk1))
            refine ⟨⟨_, by assumption⟩, ?_⟩
            rw [hwl]
            exact K9.append (intsOne _ _)
          focus
            rename_i hqo
            have hqo' : ¬ band mask o ≠ 0 := by simpa using hqo
            rw [if_neg hqo'] at hwl
            refine ⟨⟨_, by assumption⟩, ?_⟩
            rw [hwl]
            exact K9
        intro C wl ys sC KC SC
        refine comp_done_use (s₀ := s) (g := g) (L := L) (ns := fns) (ys := ys.toArray) ?_
        iterate 2 (first | walk1 | (dsimp only; walk1))
        refine ⟨_, _, by assumption, ?_⟩
        intro sD SD
        have SW0 := SD.swap.tail
        clear SD SC
        iterate 2 (first | walk1 | (dsimp only; walk1))
        have AW : AtWays w s g L kl room t size u k t2 f y6 I2 P2 I P0 mask tm (2 ^ k) tb d D ep F grown p wl sD :=
          ⟨_, _, _, _, _, by rw [waysOf, if_neg hq', if_neg hlt]; exact KC, by rw [grownOf, if_neg hq', if_neg hlt], by rw [priceOf, if_neg hq'], SW0⟩
        exact ⟨rfl, wl, AW⟩
    · rintro vs nw s8 (⟨F, grown, o, y4, y5, y6, cm, rfl, rfl, ⟨ug, rfl⟩, hF⟩ | hf') S8
      · clear S7
        rw [List.take_length] at hF
        iterate 9 (first | walk1 | (dsimp only; walk1))
        rename_i S9
        refine hQQ _ _ ⟨_, _, S9.weak (nw' := [(I, P0), (L + 1 + 1 + 1, isC cm), (L + 1 + 1, isC (some (.int (2 ^ k) tb))), (L + 1, isC (some (.ref f))), (f, isDx w F)]) (by intro p hp; simp at hp ⊢; grind) (by have := S9.nd; simp at this ⊢; grind), f, _, _, _, _, _, _, _, cm, some (.int (2 ^ k) tb), ?_, rfl, ?_, hf⟩
        · rw [hstep, hF]
        · rw [hstep, hF]; exact isI.mk rfl
      · exact hf'.elim
  · rintro vs nw s2 (⟨d, o, x1, x2, x3, x4, x5, x6, cm, cb, rfl, rfl, ⟨u, rfl⟩, hd⟩ | hf) S2
    · clear S1'
      have htk : ks.take kv.toArray.size = ks := by rw [List.size_toArray, hlen, List.take_length]
      rw [htk] at S2
      have hD32 : In32 (drun room ks).1 := drun32 hk5
      obtain ⟨⟨D, size⟩, hD⟩ : ∃ st, drun room ks = st := ⟨_, rfl⟩
      rw [hD] at S2 hD32 h hne
      dsimp only at S2 hD32 h hne
      have hnd := (S2.new (a := d) (.tail _ (.tail _ (.tail _ (.head _))))).dnodup
      have hDl := hD32.len hnd
      obtain ⟨ep, hep⟩ := S2.epoch (d := d) (D := D) (w := w) (by walk_at "m.mem")
      have S3 := S2.note (d := d) (P := isD w D ep) (.tail (.tail (.tail .head))) hep
      clear S2
      iterate 8 (first | walk1 | (dsimp only; walk1))
      have hcH := S3.new (a := L + 1) (P := isC (some (.ref d))) (by walk_at "m.mem")
      have hdx := hep.dx
      refine compAt (starts_dict ok.hh (notMod Wg hd) hep) (fun i ys => IntsAre ys ((D.take i).map (·.2))) [Str.ofString "mask"] [none] S3 (fun s' hk' => let ⟨o, e, p⟩ := hep; ⟨o, hk' _ _ e, p⟩) ?_ ?_ .nil (by omega) (by decide +kernel) (by intro x v q; cases q with | tail q => cases q) (by decide +kernel) rfl
      · repeat (rename ST _ _ _ _ _ _ _ => hST; clear hST)
        have hcc := And.intro hcH hdx
        clear hcH hdx hep
        rintro C Ic acc i2 v ys P1 s9 hi2 ⟨mask, p, tm, hDi, rfl⟩ K9 S9
        have hget := getI_of_mem hnd hDi
        iterate 5 (first | walk1 | (dsimp only; walk1))
        refine r_cell (c := L + 1) (ST.old (by assumption) hcc.1) (by kernel_rfl!) ?_ (by kernel_rfl!) (by walk_at "m.kind") (by decide +kernel) (by decide +kernel)
        iterate 1 (first | walk1 | (dsimp only; walk1))
        rename_i SB
        refine r_dget SB (SB.old hcc.2) hget ?_
        intro tC sC SC
        refine ⟨⟨_, SC⟩, ?_⟩
        rw [List.take_add_one, hDi, Option.toList_some, List.map_append]
        exact K9.append (intsOne _ _)
      · intro C acc ys s9 K9 S9
        rw [List.take_length] at K9
        refine comp_done S9 ?_
        intro sA SA
        iterate 1 (first | walk1 | (dsimp only; walk1))
        refine r_min ok.hh SA (SA.new (.head _)).weak K9 (by rw [List.length_map]; exact List.length_pos_iff.mpr hne) ?_
        intro M tM sB hM1 hM2 SB
        walk_at "m.go"
        exact h _ _ _ SB.same (SB.keeps hsg) hM1 hM2
    · exact hf.elim
end
/-- a set of kinds -/
abbrev KS := Int → Bool
def ins (C : KS) (k : Int) : KS := fun j => decide (j = k) || C j
def rep (C : KS) (o k : Int) : KS := fun j => decide (j = k) || (C j && decide (j ≠ o))
/-- the ways of holding at most h kinds: what a run from here can miss -/
inductive Cost (h : Int) : Int → List Int → KS → Int → Prop
  | nil {sz : Int} {C : KS} : Cost h sz [] C 0
  | hit {sz : Int} {C : KS} {k : Int} {ks : List Int} {p : Int} : C k = true → Cost h sz ks C p → Cost h sz (k :: ks) C p
  | room {sz : Int} {C : KS} {k : Int} {ks : List Int} {p : Int} : C k = false → sz < h → Cost h (sz + 1) ks (ins C k) p → Cost h sz (k :: ks) C (p + 1)
  | full {sz : Int} {C : KS} {k o : Int} {ks : List Int} {p : Int} : C k = false → ¬ sz < h → C o = true → Cost h sz ks (rep C o k) p → Cost h sz (k :: ks) C (p + 1)
/-- every x comes behind a y -/
def Far (l : List Int) (x y : Int) : Prop := ∀ pre post, l = pre ++ x :: post → y ∈ pre
theorem rep_back {C : KS} {x y : Int} (hx : C x = true) (hy : C y = false) : rep (rep C x y) y x = C := by
  funext j; unfold rep
  by_cases h1 : j = x
  · subst h1; simp [hx]
  · by_cases h2 : j = y
    · subst h2; simp [hy, h1]
    · simp [h1, h2]
theorem rep_two {C : KS} {x y o : Int} (hx : C x = true) (hy : C y = false) (ho : C o = true) (hox : o ≠ x) : rep (rep C o y) x o = rep C x y := by
  funext j; unfold rep
  by_cases h1 : j = x
  · subst h1
    have : j ≠ o := fun e => hox e.symm
    have : j ≠ y := fun e => by rw [e, hy] at hx; cases hx
    simp [*]
  · by_cases h2 : j = y
    · subst h2; simp [h1]
    · by_cases h3 : j = o
      · subst h3; simp [h1, ho]
      · simp [h1, h2, h3]
theorem rep_out {C : KS} {x y k : Int} (hy : C y = false) (hk : C k = false) (hky : k ≠ y) (hx : C x = true) : rep (rep C x y) y k = rep C x k := by
  funext j; unfold rep
  by_cases h1 : j = k
  · simp [h1]
  · by_cases h2 : j = y
    · subst h2; simp [hy, h1]
    · simp [h1, h2]
theorem rep_swap {C : KS} {x y o k : Int} (hx : C x = true) (hy : C y = false) (ho : C o = true) (hk : C k = false) (hox : o ≠ x) (hky : k ≠ y) : rep (rep C o k) x y = rep (rep C x y) o k := by
  have hkx : k ≠ x := fun e => by rw [e, hx] at hk; cases hk
  have hyo : y ≠ o := fun e => by rw [← e, hy] at ho; cases ho
  funext j; unfold rep
  by_cases h1 : j = k
  · subst h1; simp [hkx]
  · by_cases h2 : j = y
    · subst h2; simp [hyo]
    · simp [h1, h2]
      cases C j <;> simp
      by_cases h3 : j = o <;> by_cases h4 : j = x <;> simp [h3, h4]
theorem exch {h sz : Int} (hs : ¬ sz < h) : ∀ (l : List Int) (C : KS) (x y p : Int), C x = true → C y = false → Cost h sz l C p →
    (∃ p', p' ≤ p + 1 ∧ Cost h sz l (rep C x y) p') ∧ (Far l x y → ∃ p', p' ≤ p ∧ Cost h sz l (rep C x y) p')
  | [], C, x, y, p, hx, hy, hc => by
    cases hc
    exact ⟨⟨0, by omega, .nil⟩, fun _ => ⟨0, by omega, .nil⟩⟩
  | k :: l, C, x, y, p, hx, hy, hc => by
    have hxy : x ≠ y := fun e => by rw [e, hy] at hx; cases hx
    have hDx : rep C x y x = false := by simp [rep, hxy]
    have hDy : rep C x y y = true := by simp [rep]
    have hDo : ∀ j, j ≠ x → j ≠ y → rep C x y j = C j := fun j a b => by simp [rep, a, b]
    cases hc with
    | hit hk hc =>
      by_cases e1 : k = x
      · subst e1
        refine ⟨⟨p + 1, by omega, .full hDx hs hDy ?_⟩, fun f => ?_⟩
        · rw [rep_back hx hy]; exact hc
        · have := f [] l rfl; simp at this
      · have e2 : k ≠ y := fun e => by rw [e, hy] at hk; cases hk
        obtain ⟨⟨p1, a1, b1⟩, i2⟩ := exch hs l C x y p hx hy hc
        refine ⟨⟨p1, a1, .hit (by rw [hDo k e1 e2]; exact hk) b1⟩, fun f => ?_⟩
        obtain ⟨p2, a2, b2⟩ := i2 (fun pre post e => by
          have := f (k :: pre) post (by rw [e]; rfl)
          rcases List.mem_cons.mp this with q | q
          · exact absurd q.symm e2
          · exact q)
        exact ⟨p2, a2, .hit (by rw [hDo k e1 e2]; exact hk) b2⟩
    | room hk hlt _ => exact absurd hlt hs
    | @full _ _ _ o _ p hk _ ho hc =>
      have e1 : k ≠ x := fun e => by rw [e, hx] at hk; cases hk
      by_cases e2 : k = y
      · subst e2
        by_cases e3 : o = x
        · subst e3
          exact ⟨⟨p, by omega, .hit hDy hc⟩, fun _ => ⟨p, by omega, .hit hDy hc⟩⟩
        · have c1 : rep C o k x = true := by simp [rep, hx]; exact .inr fun e => e3 e.symm
          have c2 : rep C o k o = false := by
            have : o ≠ k := fun e => by rw [e, hk] at ho; cases ho
            simp [rep, this]
          obtain ⟨⟨p1, a1, b1⟩, _⟩ := exch hs l (rep C o k) x o p c1 c2 hc
          rw [rep_two hx hk ho e3] at b1
          exact ⟨⟨p1, by omega, .hit hDy b1⟩, fun _ => ⟨p1, by omega, .hit hDy b1⟩⟩
      · have hDk : rep C x y k = false := by rw [hDo k e1 e2]; exact hk
        by_cases e3 : o = x
        · subst e3
          have : Cost h sz (k :: l) (rep C o y) (p + 1) := .full hDk hs hDy (by rw [rep_out hy hk e2 hx]; exact hc)
          exact ⟨⟨p + 1, by omega, this⟩, fun _ => ⟨p + 1, by omega, this⟩⟩
        · have hoy : o ≠ y := fun e => by rw [e, hy] at ho; cases ho
          have c1 : rep C o k x = true := by simp [rep, hx]; exact .inr fun e => e3 e.symm
          have c2 : rep C o k y = false := by
            have : y ≠ k := fun e => e2 e.symm
            simp [rep, this, hy]
          obtain ⟨⟨p1, a1, b1⟩, i2⟩ := exch hs l (rep C o k) x y p c1 c2 hc
          rw [rep_swap hx hy ho hk e3 e2] at b1 i2
          have hDo' : rep C x y o = true := by rw [hDo o e3 hoy]; exact ho
          refine ⟨⟨p1 + 1, by omega, .full hDk hs hDo' b1⟩, fun f => ?_⟩
          obtain ⟨p2, a2, b2⟩ := i2 (fun pre post e => by
            have := f (k :: pre) post (by rw [e]; rfl)
            rcases List.mem_cons.mp this with q | q
            · exact absurd q.symm e2
            · exact q)
          exact ⟨p2 + 1, by omega, .full hDk hs hDo' b2⟩
theorem getI_none {D : List (Int × Int)} {k : Int} (h : getI D k = none) : k ∉ D.map (·.1) := by
  unfold getI at h
  intro m
  obtain ⟨e, me, rfl⟩ := List.mem_map.mp m
  have h' : D.find? (fun kv => decide (kv.1 = e.1)) = none := by simpa using h
  have := List.find?_eq_none.mp h' e me
  simp at this
theorem getI_some {D : List (Int × Int)} {k p : Int} (h : getI D k = some p) : (k, p) ∈ D := by
  unfold getI at h
  cases q : D.find? (fun kv => decide (kv.1 = k)) with
  | none => rw [q] at h; simp at h
  | some e =>
    rw [q] at h
    simp at h
    have h1 := List.mem_of_find?_eq_some q
    have h2 := List.find?_some q
    have h2' : e.1 = k := of_decide_eq_true h2
    rw [← h2', ← h]; exact h1
theorem putI_new {D : List (Int × Int)} {k p : Int} (h : k ∉ D.map (·.1)) : putI D k p = D ++ [(k, p)] := by
  unfold putI
  rw [if_neg]
  intro q
  obtain ⟨e, m, q⟩ := List.any_eq_true.mp q
  exact h (by rw [← of_decide_eq_true q]; exact List.mem_map_of_mem (f := (·.1)) m)
theorem putI_old {D : List (Int × Int)} {k p q : Int} (h : (k, q) ∈ D) : putI D k p = D.map (fun kv => if kv.1 = k then (kv.1, p) else kv) := by
  unfold putI
  rw [if_pos]
  exact List.any_eq_true.mpr ⟨(k, q), h, by simp⟩
theorem uniq {D : List (Int × Int)} (nd : (D.map (·.1)).Nodup) {k p q : Int} (h : (k, p) ∈ D) (h' : (k, q) ∈ D) : p = q := by
  induction D with
  | nil => simp at h
  | cons e r ih =>
    rw [List.map_cons, List.nodup_cons] at nd
    rcases List.mem_cons.mp h with a | a <;> rcases List.mem_cons.mp h' with b | b
    · rw [← a] at b; exact ((Prod.mk.injEq ..).mp b).2.symm
    · exact absurd (by rw [← a]; exact List.mem_map_of_mem (f := (·.1)) b) nd.1
    · exact absurd (by rw [← b]; exact List.mem_map_of_mem (f := (·.1)) a) nd.1
    · exact ih nd.2 a b
/-- a table of prices: the least ones of what was offered -/
structure Gd (F : List (Int × Int)) (O : Int → Int → Prop) : Prop where
  nd : (F.map (·.1)).Nodup
  a : ∀ w p, (w, p) ∈ F → O w p
  b : ∀ w p, O w p → ∃ p2, p2 ≤ p ∧ (w, p2) ∈ F
theorem Gd.rlx {F : List (Int × Int)} {O : Int → Int → Prop} (G : Gd F O) (pr way : Int) : Gd (relax F pr way) (fun w p => O w p ∨ (w = way ∧ p = pr)) := by
  unfold relax
  cases hg : getI F way with
  | none =>
    have hn := getI_none hg
    dsimp only
    rw [putI_new hn]
    refine ⟨?_, fun w p m => ?_, fun w p o => ?_⟩
    · rw [List.map_append, List.nodup_append]
      refine ⟨G.nd, by simp, fun a ha b hb e => hn ?_⟩
      simp at hb
      rw [← hb, ← e]; exact ha
    · rcases List.mem_append.mp m with m | m
      · exact .inl (G.a w p m)
      · simp at m; exact .inr m
    · rcases o with o | ⟨rfl, rfl⟩
      · obtain ⟨p2, l, m⟩ := G.b w p o
        exact ⟨p2, l, List.mem_append_left _ m⟩
      · exact ⟨p, Int.le_refl _, List.mem_append_right _ (by simp)⟩
  | some q =>
    have hm := getI_some hg
    dsimp only
    by_cases hlt : pr < q
    · rw [if_pos hlt, putI_old hm]
      refine ⟨?_, fun w p m => ?_, fun w p o => ?_⟩
      · rw [List.map_map]
        have : ((fun x : Int × Int => x.1) ∘ fun kv : Int × Int => if kv.1 = way then (kv.1, pr) else kv) = fun x => x.1 := by
          funext kv
          simp only [Function.comp_apply]
          split <;> rfl
        rw [this]; exact G.nd
      · obtain ⟨e, me, he⟩ := List.mem_map.mp m
        split at he
        · rename_i hk
          simp only [Prod.mk.injEq] at he
          exact .inr ⟨by rw [← he.1]; exact hk, he.2.symm⟩
        · rw [he] at me; exact .inl (G.a w p me)
      · rcases o with o | ⟨rfl, rfl⟩
        · obtain ⟨p2, l, m⟩ := G.b w p o
          by_cases hw : w = way
          · subst hw
            have := uniq G.nd m hm
            subst this
            exact ⟨pr, by omega, List.mem_map.mpr ⟨(w, p2), m, by simp⟩⟩
          · exact ⟨p2, l, List.mem_map.mpr ⟨(w, p2), m, by simp [hw]⟩⟩
        · exact ⟨p, Int.le_refl _, List.mem_map.mpr ⟨(w, q), hm, by simp⟩⟩
    · rw [if_neg hlt]
      refine ⟨G.nd, fun w p m => .inl (G.a w p m), fun w p o => ?_⟩
      rcases o with o | ⟨rfl, rfl⟩
      · exact G.b w p o
      · exact ⟨q, by omega, hm⟩
theorem Gd.congr {F : List (Int × Int)} {O O' : Int → Int → Prop} (G : Gd F O) (h : ∀ w p, O w p ↔ O' w p) : Gd F O' :=
  ⟨G.nd, fun w p m => (h w p).mp (G.a w p m), fun w p o => G.b w p ((h w p).mpr o)⟩
theorem Gd.fold {pr : Int} : ∀ (l : List Int) {F : List (Int × Int)} {O : Int → Int → Prop}, Gd F O → Gd (l.foldl (fun F way => relax F pr way) F) (fun w p => O w p ∨ (w ∈ l ∧ p = pr))
  | [], F, O, G => G.congr fun w p => by simp
  | y :: l, F, O, G => by
    rw [List.foldl_cons]
    refine (Gd.fold l (G.rlx pr y)).congr fun w p => ?_
    simp only [List.mem_cons]
    constructor
    · rintro ((h | ⟨h, h'⟩) | ⟨h, h'⟩)
      · exact .inl h
      · exact .inr ⟨.inl h, h'⟩
      · exact .inr ⟨.inr h, h'⟩
    · rintro (h | ⟨h | h, h'⟩)
      · exact .inl (.inl h)
      · exact .inl (.inr ⟨h, h'⟩)
      · exact .inr ⟨h, h'⟩
theorem Gd.turn {size room bit : Int} : ∀ (l : List (Int × Int)) {F : List (Int × Int)} {gr : Int} {O : Int → Int → Prop}, Gd F O →
    Gd (l.foldl (dturn size room bit) (F, gr)).1 (fun w p => O w p ∨ ∃ e ∈ l, w ∈ waysOf size room e.1 bit ∧ p = priceOf e.1 bit e.2)
  | [], F, gr, O, G => G.congr fun w p => by simp
  | e :: l, F, gr, O, G => by
    rw [List.foldl_cons]
    refine (Gd.turn l (Gd.fold (pr := priceOf e.1 bit e.2) (waysOf size room e.1 bit) G)).congr fun w p => ?_
    simp only [List.mem_cons]
    constructor
    · rintro ((h | h) | ⟨e', h, h'⟩)
      · exact .inl h
      · exact .inr ⟨e, .inl rfl, h⟩
      · exact .inr ⟨e', .inr h, h'⟩
    · rintro (h | ⟨e', rfl | h, h'⟩)
      · exact .inl (.inl h)
      · exact .inl (.inr h')
      · exact .inr ⟨e', h, h'⟩
theorem grown_full {size room bit : Int} (hs : ¬ size < room) : ∀ (l : List (Int × Int)) (F : List (Int × Int)) (gr : Int), (l.foldl (dturn size room bit) (F, gr)).2 = gr
  | [], F, gr => rfl
  | e :: l, F, gr => by
    rw [List.foldl_cons, dturn]
    dsimp only
    have : grownOf size room e.1 bit gr = gr := by unfold grownOf; rw [if_neg hs]; split <;> rfl
    rw [this]
    exact grown_full hs l _ gr
/-- a mask's kinds -/
def setOf (mask : Int) : KS := fun j => decide (0 ≤ j ∧ j < 5) && decide (band mask (2 ^ j.toNat) ≠ 0)
theorem set_add' : ∀ (m : Fin 32) (k j : Fin 5), band (m.val : Int) (2 ^ k.val) = 0 → decide (band ((m.val : Int) + 2 ^ k.val) (2 ^ j.val) ≠ 0) = (decide (j = k) || decide (band (m.val : Int) (2 ^ j.val) ≠ 0)) := by decide +kernel
theorem set_rep' : ∀ (m : Fin 32) (o k j : Fin 5), band (m.val : Int) (2 ^ k.val) = 0 → band (m.val : Int) (2 ^ o.val) ≠ 0 → decide (band ((m.val : Int) - 2 ^ o.val + 2 ^ k.val) (2 ^ j.val) ≠ 0) = (decide (j = k) || (decide (band (m.val : Int) (2 ^ j.val) ≠ 0) && decide (j ≠ o))) := by decide +kernel
theorem setOf_at {mask : Int} {k : Nat} (hk : k < 5) : setOf mask k = decide (band mask (2 ^ k) ≠ 0) := by
  unfold setOf
  rw [decide_eq_true (by omega), Bool.true_and, Int.toNat_natCast]
theorem setOf_add {mask : Int} {k : Nat} (hk : k < 5) (hm : 0 ≤ mask ∧ mask < 32) (hb : band mask (2 ^ k) = 0) : setOf (mask + 2 ^ k) = ins (setOf mask) k := by
  obtain ⟨m, rfl⟩ := Int.eq_ofNat_of_zero_le hm.1
  funext j
  unfold ins
  by_cases hj : 0 ≤ j ∧ j < 5
  · obtain ⟨i, rfl⟩ := Int.eq_ofNat_of_zero_le hj.1
    rw [setOf_at (by omega), setOf_at (by omega)]
    have := set_add' ⟨m, by omega⟩ ⟨k, hk⟩ ⟨i, by omega⟩ hb
    dsimp only at this
    rw [this]
    congr 1
    rw [decide_eq_decide]
    simp only [Fin.mk.injEq]
    omega
  · have e : ∀ x, setOf x j = false := fun x => by unfold setOf; rw [decide_eq_false hj]; rfl
    rw [e, e, decide_eq_false (by omega)]; rfl
theorem setOf_rep {mask : Int} {k o : Nat} (hk : k < 5) (ho : o < 5) (hm : 0 ≤ mask ∧ mask < 32) (hb : band mask (2 ^ k) = 0) (hb' : band mask (2 ^ o) ≠ 0) : setOf (mask - 2 ^ o + 2 ^ k) = rep (setOf mask) o k := by
  obtain ⟨m, rfl⟩ := Int.eq_ofNat_of_zero_le hm.1
  funext j
  unfold rep
  by_cases hj : 0 ≤ j ∧ j < 5
  · obtain ⟨i, rfl⟩ := Int.eq_ofNat_of_zero_le hj.1
    rw [setOf_at (by omega), setOf_at (by omega)]
    have := set_rep' ⟨m, by omega⟩ ⟨o, ho⟩ ⟨k, hk⟩ ⟨i, by omega⟩ hb hb'
    dsimp only at this
    rw [this]
    congr 1
    · rw [decide_eq_decide]; simp only [Fin.mk.injEq]; omega
    · congr 1
      rw [decide_eq_decide, ne_eq, ne_eq, Fin.mk.injEq]; omega
  · have e : ∀ x, setOf x j = false := fun x => by unfold setOf; rw [decide_eq_false hj]; rfl
    rw [e, e, decide_eq_false (by omega)]; rfl
theorem setOf_zero : setOf 0 = fun _ => false := by
  funext j
  by_cases hj : 0 ≤ j ∧ j < 5
  · obtain ⟨i, rfl⟩ := Int.eq_ofNat_of_zero_le hj.1
    rw [setOf_at (by omega)]
    have : ∀ i : Fin 5, decide (band 0 (2 ^ i.val) ≠ 0) = false := by decide +kernel
    exact this ⟨i, by omega⟩
  · unfold setOf; rw [decide_eq_false hj]; rfl
structure DI (h : Int) (D : List (Int × Int)) (size : Int) : Prop where
  in32 : In32 D
  nd : (D.map (·.1)).Nodup
  one : size < h → ∃ e, D = [e]
theorem relax_nil (pr way : Int) : relax [] pr way = [(way, pr)] := rfl
theorem pow5 : ∀ o ∈ [(1 : Int), 2, 4, 8, 16], ∃ i : Nat, i < 5 ∧ o = 2 ^ i := by
  intro o ho
  simp only [List.mem_cons, List.not_mem_nil, or_false] at ho
  rcases ho with rfl | rfl | rfl | rfl | rfl
  · exact ⟨0, by omega, rfl⟩
  · exact ⟨1, by omega, rfl⟩
  · exact ⟨2, by omega, rfl⟩
  · exact ⟨3, by omega, rfl⟩
  · exact ⟨4, by omega, rfl⟩
theorem pow5' {i : Nat} (h : i < 5) : (2 : Int) ^ i ∈ [(1 : Int), 2, 4, 8, 16] := by
  have : ∀ i : Fin 5, (2 : Int) ^ i.val ∈ [(1 : Int), 2, 4, 8, 16] := by decide
  exact this ⟨i, h⟩
section
variable {h size : Int} {D : List (Int × Int)} {k : Nat}
theorem dstep_one {m p : Int} : dstep h ([(m, p)], size) (k : Int) = if band m (2 ^ k) ≠ 0 then ([(m, p)], size) else if size < h then ([(m + 2 ^ k, p + 1)], size + 1) else dstep h ([(m, p)], size) (k : Int) := by
  by_cases hb : band m (2 ^ k) ≠ 0
  · rw [if_pos hb]
    unfold dstep
    rw [List.foldl_cons, List.foldl_nil, dturn, Int.toNat_natCast]
    dsimp only
    rw [waysOf, if_pos hb, priceOf, if_pos hb, grownOf, if_pos hb, List.foldl_cons, List.foldl_nil, relax_nil]
  · rw [if_neg hb]
    by_cases hs : size < h
    · rw [if_pos hs]
      unfold dstep
      rw [List.foldl_cons, List.foldl_nil, dturn, Int.toNat_natCast]
      dsimp only
      rw [waysOf, if_neg hb, if_pos hs, priceOf, if_neg hb, grownOf, if_neg hb, if_pos hs, List.foldl_cons, List.foldl_nil, relax_nil]
    · rw [if_neg hs]
theorem dstep_gd (hs : ¬ size < h) : Gd (dstep h (D, size) (k : Int)).1 (fun w p => ∃ e ∈ D, w ∈ waysOf size h e.1 (2 ^ k) ∧ p = priceOf e.1 (2 ^ k) e.2) ∧ (dstep h (D, size) (k : Int)).2 = size := by
  unfold dstep
  dsimp only
  rw [Int.toNat_natCast]
  refine ⟨?_, grown_full hs _ _ _⟩
  have := Gd.turn (size := size) (room := h) (bit := 2 ^ k) D (F := []) (gr := size) (O := fun _ _ => False) ⟨by simp, by simp, by simp⟩
  exact this.congr fun w p => by simp
theorem dstep_inv (hk : k < 5) (I : DI h D size) : DI h (dstep h (D, size) (k : Int)).1 (dstep h (D, size) (k : Int)).2 := by
  have h32 : In32 (dstep h (D, size) (k : Int)).1 := by
    unfold dstep
    rw [Int.toNat_natCast]
    exact In32.turn hk (by intro e m; simp at m) I.in32
  by_cases hs : size < h
  · obtain ⟨⟨m, p⟩, rfl⟩ := I.one hs
    have e := dstep_one (h := h) (size := size) (k := k) (m := m) (p := p)
    by_cases hb : band m (2 ^ k) ≠ 0
    · rw [if_pos hb] at e
      rw [e] at h32 ⊢
      exact ⟨h32, by simp, fun _ => ⟨_, rfl⟩⟩
    · rw [if_neg hb, if_pos hs] at e
      rw [e] at h32 ⊢
      exact ⟨h32, by simp, fun _ => ⟨_, rfl⟩⟩
  · obtain ⟨G, e⟩ := dstep_gd (h := h) (D := D) (k := k) hs
    exact ⟨h32, G.nd, fun q => absurd (e ▸ q) hs⟩
theorem band_of {m : Int} (hk : k < 5) : (setOf m k = true ↔ band m (2 ^ k) ≠ 0) ∧ (setOf m k = false ↔ band m (2 ^ k) = 0) := by
  rw [setOf_at hk]
  constructor
  · simp
  · simp
theorem dstep_fwd {ks : List Int} {m p p' : Int} (hk : k < 5) (I : DI h D size) (hm : (m, p) ∈ D) (hc : Cost h size ((k : Int) :: ks) (setOf m) p') :
    ∃ m2 p2 p2', (m2, p2) ∈ (dstep h (D, size) (k : Int)).1 ∧ Cost h (dstep h (D, size) (k : Int)).2 ks (setOf m2) p2' ∧ p2 + p2' ≤ p + p' := by
  have hm32 := I.in32 _ hm
  by_cases hs : size < h
  · obtain ⟨e, rfl⟩ := I.one hs
    rw [List.mem_singleton] at hm
    subst hm
    have e := dstep_one (h := h) (size := size) (k := k) (m := m) (p := p)
    cases hc with
    | hit hh hc =>
      rw [if_pos ((band_of hk).1.mp hh)] at e
      rw [e]
      exact ⟨m, p, _, by simp, hc, Int.le_refl _⟩
    | @room _ _ _ _ q hh _ hc =>
      have hb := (band_of hk).2.mp hh
      rw [if_neg (by simpa using hb), if_pos hs] at e
      rw [e]
      refine ⟨m + 2 ^ k, p + 1, q, by simp, ?_, by omega⟩
      rw [setOf_add hk hm32 hb]; exact hc
    | full _ q _ _ => exact absurd hs q
  · obtain ⟨G, e⟩ := dstep_gd (h := h) (D := D) (k := k) hs
    rw [e]
    cases hc with
    | hit hh hc =>
      have hb := (band_of hk).1.mp hh
      obtain ⟨p2, l, mm⟩ := G.b m p ⟨(m, p), hm, by dsimp only; rw [waysOf, if_pos hb]; simp, by dsimp only; rw [priceOf, if_pos hb]⟩
      exact ⟨m, p2, _, mm, hc, by omega⟩
    | room _ q _ => exact absurd q hs
    | @full _ _ _ o _ q hh _ ho hc =>
      have hb := (band_of hk).2.mp hh
      have hb' : ¬ band m (2 ^ k) ≠ 0 := by simpa using hb
      have ho5 : 0 ≤ o ∧ o < 5 := by
        unfold setOf at ho
        rw [Bool.and_eq_true] at ho
        exact of_decide_eq_true ho.1
      obtain ⟨i, rfl⟩ := Int.eq_ofNat_of_zero_le ho5.1
      have hi : i < 5 := by omega
      have hbo := (band_of hi).1.mp ho
      obtain ⟨p2, l, mm⟩ := G.b (m - 2 ^ i + 2 ^ k) (p + 1) ⟨(m, p), hm, by
        dsimp only
        rw [waysOf, if_neg hb', if_neg hs]
        exact List.mem_map.mpr ⟨2 ^ i, List.mem_filter.mpr ⟨pow5' hi, decide_eq_true hbo⟩, rfl⟩, by dsimp only; rw [priceOf, if_neg hb']⟩
      refine ⟨_, p2, q, mm, ?_, by omega⟩
      rw [setOf_rep hk hi hm32 hb hbo]; exact hc
theorem dstep_bwd {ks : List Int} {m2 p2 p2' : Int} (hk : k < 5) (I : DI h D size) (hm : (m2, p2) ∈ (dstep h (D, size) (k : Int)).1) (hc : Cost h (dstep h (D, size) (k : Int)).2 ks (setOf m2) p2') :
    ∃ m p p', (m, p) ∈ D ∧ Cost h size ((k : Int) :: ks) (setOf m) p' ∧ p + p' = p2 + p2' := by
  by_cases hs : size < h
  · obtain ⟨⟨m, p⟩, rfl⟩ := I.one hs
    have hm32 := I.in32 _ (List.mem_singleton.mpr rfl)
    have e := dstep_one (h := h) (size := size) (k := k) (m := m) (p := p)
    by_cases hb : band m (2 ^ k) ≠ 0
    · rw [if_pos hb] at e
      rw [e] at hm hc
      simp at hm
      obtain ⟨rfl, rfl⟩ := hm
      exact ⟨m2, p2, p2', by simp, .hit ((band_of hk).1.mpr hb) hc, rfl⟩
    · rw [if_neg hb, if_pos hs] at e
      rw [e] at hm hc
      simp at hm
      obtain ⟨rfl, rfl⟩ := hm
      have hb' : band m (2 ^ k) = 0 := by simpa using hb
      rw [setOf_add hk hm32 hb'] at hc
      exact ⟨m, p, p2' + 1, by simp, .room ((band_of hk).2.mpr hb') hs hc, by omega⟩
  · obtain ⟨G, e⟩ := dstep_gd (h := h) (D := D) (k := k) hs
    rw [e] at hc
    obtain ⟨⟨m, p⟩, hmD, hw, hp⟩ := G.a m2 p2 hm
    have hm32 := I.in32 _ hmD
    dsimp only at hw hp hm32
    by_cases hb : band m (2 ^ k) ≠ 0
    · rw [waysOf, if_pos hb, List.mem_singleton] at hw
      rw [priceOf, if_pos hb] at hp
      subst hw hp
      exact ⟨m2, p2, p2', hmD, .hit ((band_of hk).1.mpr hb) hc, rfl⟩
    · rw [waysOf, if_neg hb, if_neg hs] at hw
      rw [priceOf, if_neg hb] at hp
      obtain ⟨o, mo, rfl⟩ := List.mem_map.mp hw
      obtain ⟨m1, mo2⟩ := List.mem_filter.mp mo
      obtain ⟨i, hi, rfl⟩ := pow5 o m1
      have hbo : band m (2 ^ i) ≠ 0 := of_decide_eq_true mo2
      have hb' : band m (2 ^ k) = 0 := by simpa using hb
      rw [setOf_rep hk hi hm32 hb' hbo] at hc
      exact ⟨m, p, p2' + 1, hmD, .full ((band_of hk).2.mpr hb') hs ((band_of hi).1.mpr hbo) hc, by omega⟩
theorem dp_all : ∀ (ks : List Int) (D : List (Int × Int)) (size : Int), DI h D size → (∀ k ∈ ks, 0 ≤ k ∧ k < 5) →
    (∀ m p p', (m, p) ∈ D → Cost h size ks (setOf m) p' → ∃ m2 p2, (m2, p2) ∈ (ks.foldl (dstep h) (D, size)).1 ∧ p2 ≤ p + p') ∧
    (∀ m2 p2, (m2, p2) ∈ (ks.foldl (dstep h) (D, size)).1 → ∃ m p p', (m, p) ∈ D ∧ Cost h size ks (setOf m) p' ∧ p + p' = p2)
  | [], D, size, I, _ => by
    refine ⟨fun m p p' hm hc => ?_, fun m2 p2 hm => ⟨m2, p2, 0, hm, .nil, by omega⟩⟩
    cases hc
    exact ⟨m, p, hm, by omega⟩
  | k :: ks, D, size, I, hk => by
    have hk' := hk k (.head _)
    obtain ⟨k', rfl⟩ := Int.eq_ofNat_of_zero_le hk'.1
    have hk5 : k' < 5 := by omega
    have I2 := dstep_inv hk5 I
    obtain ⟨a, b⟩ := dp_all ks _ _ I2 (fun z m => hk z (.tail _ m))
    rw [List.foldl_cons]
    refine ⟨fun m p p' hm hc => ?_, fun m2 p2 hm => ?_⟩
    · obtain ⟨m2, p2, p2', x, y, z⟩ := dstep_fwd hk5 I hm hc
      obtain ⟨m3, p3, x3, y3⟩ := a m2 p2 p2' x y
      exact ⟨m3, p3, x3, by omega⟩
    · obtain ⟨m, p, p', x, y, z⟩ := b m2 p2 hm
      obtain ⟨m3, p3, p3', x3, y3, z3⟩ := dstep_bwd hk5 I x y
      exact ⟨m3, p3, p3', x3, y3, by omega⟩
/-- the table of prices: what it ends with -/
theorem dp_law {ks : List Int} (hk : ∀ k ∈ ks, 0 ≤ k ∧ k < 5) (hh : 1 ≤ h) :
    (∀ p, Cost h 0 ks (fun _ => false) p → ∃ M ∈ (drun h ks).1.map (·.2), M ≤ p) ∧ (∀ M ∈ (drun h ks).1.map (·.2), Cost h 0 ks (fun _ => false) M) := by
  have I : DI h [(0, 0)] 0 := ⟨by intro e m; simp at m; subst m; decide, by simp, fun _ => ⟨_, rfl⟩⟩
  obtain ⟨a, b⟩ := dp_all ks _ _ I hk
  rw [← setOf_zero]
  refine ⟨fun p hc => ?_, fun M hM => ?_⟩
  · obtain ⟨m2, p2, x, y⟩ := a 0 0 p (by simp) hc
    exact ⟨p2, List.mem_map.mpr ⟨(m2, p2), x, rfl⟩, by omega⟩
  · obtain ⟨⟨m2, p2⟩, x, rfl⟩ := List.mem_map.mp hM
    obtain ⟨m, p, p', y, z, u⟩ := b m2 p2 x
    simp at y
    obtain ⟨rfl, rfl⟩ := y
    dsimp only
    rw [← u, Int.zero_add]; exact z
end
theorem lats_mem {ks : List Int} {i k : Nat} {a : Int} : a ∈ lats ks i k ↔ ∃ d : Nat, d < k ∧ a = ((i + 1 + d : Nat) : Int) ∧ ks.getD (i + 1 + d) 0 = ks.getD i 0 := by
  unfold lats
  rw [List.mem_filter, List.mem_map]
  constructor
  · rintro ⟨⟨d, hd, rfl⟩, h⟩
    rw [decide_eq_true_eq, Int.toNat_natCast] at h
    exact ⟨d, List.mem_range.mp hd, rfl, h⟩
  · rintro ⟨d, hd, rfl, h⟩
    refine ⟨⟨d, List.mem_range.mpr hd, rfl⟩, ?_⟩
    rw [decide_eq_true_eq, Int.toNat_natCast]; exact h
theorem lats_pw (ks : List Int) (i k : Nat) : (lats ks i k).Pairwise (· < ·) := by
  unfold lats
  refine List.Pairwise.filter _ ?_
  rw [List.pairwise_map]
  exact List.pairwise_lt_range.imp fun h => by omega
/-- the place of the next asking of the kind -/
theorem nxt_spec {ks : List Int} {n i : Nat} (hi : i < n) : ∃ t : Nat, nxt ks n i = t ∧ i < t ∧ t ≤ n ∧ (t < n → ks.getD t 0 = ks.getD i 0) ∧ ∀ t', i < t' → t' < t → ks.getD t' 0 ≠ ks.getD i 0 := by
  unfold nxt
  have pw := lats_pw ks i (n - (i + 1))
  cases h : lats ks i (n - (i + 1)) with
  | nil =>
    refine ⟨n, rfl, hi, Nat.le_refl _, fun q => absurd q (by omega), fun t' h1 h2 e => ?_⟩
    have : ((t' : Nat) : Int) ∈ lats ks i (n - (i + 1)) := lats_mem.mpr ⟨t' - (i + 1), by omega, by congr 1; omega, by rw [show i + 1 + (t' - (i + 1)) = t' by omega]; exact e⟩
    rw [h] at this; simp at this
  | cons a r =>
    have ha : a ∈ lats ks i (n - (i + 1)) := by rw [h]; exact .head _
    obtain ⟨d, hd, rfl, he⟩ := lats_mem.mp ha
    refine ⟨i + 1 + d, rfl, by omega, by omega, fun _ => he, fun t' h1 h2 e => ?_⟩
    have hm : ((t' : Nat) : Int) ∈ lats ks i (n - (i + 1)) := lats_mem.mpr ⟨t' - (i + 1), by omega, by congr 1; omega, by rw [show i + 1 + (t' - (i + 1)) = t' by omega]; exact e⟩
    rw [h] at hm pw
    rcases List.mem_cons.mp hm with q | q
    · omega
    · have := (List.pairwise_cons.mp pw).1 _ q
      omega
/-- the second table's run, by kinds -/
inductive KB (ks : List Int) (room : Nat) : Nat → Int → List Int → Prop
  | zero : KB ks room 0 0 []
  | hit {i m c} : KB ks room i m c → ks.getD i 0 ∈ c → KB ks room (i + 1) m c
  | room {i m c} : KB ks room i m c → ks.getD i 0 ∉ c → c.length < room → KB ks room (i + 1) (m + 1) (c ++ [ks.getD i 0])
  | full {i m c x} : KB ks room i m c → ks.getD i 0 ∉ c → ¬ c.length < room → x ∈ c → (∀ y ∈ c, y ≠ x → Far (ks.drop (i + 1)) x y) → KB ks room (i + 1) (m + 1) (c.filter (fun y => decide (y ≠ x)) ++ [ks.getD i 0])
structure BInv (ks : List Int) (nn : List Str) (room i : Nat) (q : List Str) (h : List Key) (qa : List Ask) (js : List Nat) : Prop where
  q : q = qa.map (·.2)
  sub : ∀ a ∈ qa, a ∈ ks.zip nn
  h : h.Perm (js.map (bkey ks nn))
  nd : js.Nodup
  lt : ∀ j ∈ js, j < i
  f : ∀ c ∈ kindsOf qa, ∃ j ∈ js, ks.getD j 0 = c ∧ (i : Int) ≤ nxt ks nn.length j
  b : ∀ j ∈ js, (i : Int) ≤ nxt ks nn.length j → ks.getD j 0 ∈ kindsOf qa
theorem key_le {a b : Key} (h : klt a b = false) : b.1 ≤ a.1 := by
  rcases kge_iff.mp h with h | h
  · omega
  · omega
theorem nxt_shift {ks : List Int} {n i j : Nat} (hj : j < i) (hi : i < n) (lj : (i : Int) ≤ nxt ks n j) (hne : ks.getD j 0 ≠ ks.getD i 0) : ((i + 1 : Nat) : Int) ≤ nxt ks n j := by
  obtain ⟨u, eu, u1, u2, u3, u4⟩ := nxt_spec (ks := ks) (n := n) (i := j) (by omega)
  rw [eu] at lj ⊢
  have : u ≠ i := fun z => hne (by rw [← u3 (by omega), z])
  omega
theorem nxt_up {ks : List Int} {n i : Nat} (hi : i < n) : ((i + 1 : Nat) : Int) ≤ nxt ks n i := by
  obtain ⟨t, et, t1, t2, t3, t4⟩ := nxt_spec (ks := ks) (n := n) (i := i) hi
  rw [et]; omega
theorem go_ask {ks : List Int} {nn : List Str} {i : Nat} {qa : List Ask} (e : ks.length = nn.length) (hgo : Go (ks.zip nn)) (hi : i < nn.length) (sub : ∀ a ∈ qa, a ∈ ks.zip nn) :
    Go ((ks.getD i 0, nn.getD i default) :: qa) ∧ (ks.getD i 0, nn.getD i default) ∈ ks.zip nn := by
  have hxm : (ks.getD i 0, nn.getD i default) ∈ ks.zip nn := List.mem_of_getElem? (zip_get (ks := ks) (nn := nn) (i := i) (by omega) e)
  refine ⟨hgo.sub fun a ma => ?_, hxm⟩
  rcases List.mem_cons.mp ma with ma | ma
  · exact ma ▸ hxm
  · exact sub a ma
theorem bel_kb {ks : List Int} {nn : List Str} {room : Nat} (hr : 1 ≤ room) (e : ks.length = nn.length) (hgo : Go (ks.zip nn)) {i : Nat} {m : Int} {q : List Str} {h : List Key} (B : Bel ks nn room i m q h) (hi : i ≤ nn.length) :
    ∃ qa js, BInv ks nn room i q h qa js ∧ KB ks room i m (kindsOf qa) := by
  induction B with
  | zero => exact ⟨[], [], ⟨rfl, by simp, .refl _, by simp, by simp, by simp, by simp⟩, .zero⟩
  | @hit i m q h h' B hq hp ih =>
    obtain ⟨qa, js, I, K⟩ := ih (by omega)
    obtain ⟨hG, hxm⟩ := go_ask e hgo (show i < nn.length by omega) I.sub
    have hin : ks.getD i 0 ∈ kindsOf qa := by
      have := hG.has
      dsimp only at this
      rw [← I.q, hq] at this
      exact of_decide_eq_true this.symm
    have hup := nxt_up (ks := ks) (n := nn.length) (i := i) (by omega)
    refine ⟨qa, i :: js, ⟨I.q, I.sub, ?_, ?_, ?_, ?_, ?_⟩, .hit K hin⟩
    · exact hp.trans ((I.h.cons _))
    · exact List.nodup_cons.mpr ⟨fun m => by have := I.lt i m; omega, I.nd⟩
    · intro j mj
      rcases List.mem_cons.mp mj with rfl | mj
      · omega
      · have := I.lt j mj; omega
    · intro c mc
      by_cases hc : c = ks.getD i 0
      · exact ⟨i, .head _, hc.symm, hup⟩
      · obtain ⟨j, mj, ej, lj⟩ := I.f c mc
        exact ⟨j, .tail _ mj, ej, nxt_shift (I.lt j mj) (by omega) lj (by rw [ej]; exact hc)⟩
    · intro j mj lj
      rcases List.mem_cons.mp mj with rfl | mj
      · exact hin
      · exact I.b j mj (by omega)
  | @room i m q h h' B hq hl hp ih =>
    obtain ⟨qa, js, I, K⟩ := ih (by omega)
    obtain ⟨hG, hxm⟩ := go_ask e hgo (show i < nn.length by omega) I.sub
    have hin : ks.getD i 0 ∉ kindsOf qa := by
      have := hG.has
      dsimp only at this
      rw [← I.q, hq] at this
      exact of_decide_eq_false this.symm
    have hup := nxt_up (ks := ks) (n := nn.length) (i := i) (by omega)
    have hqd : dropS q (nn.getD i default) = q := by
      have := hG.drop
      dsimp only at this
      rw [I.q, this, filt_id hin]
    have hkk : kindsOf (qa ++ [(ks.getD i 0, nn.getD i default)]) = kindsOf qa ++ [ks.getD i 0] := by rw [kindsOf, List.map_append]; rfl
    refine ⟨qa ++ [(ks.getD i 0, nn.getD i default)], i :: js, ⟨?_, ?_, ?_, ?_, ?_, ?_, ?_⟩, ?_⟩
    · rw [hqd, I.q, List.map_append]; rfl
    · intro a ma
      rcases List.mem_append.mp ma with ma | ma
      · exact I.sub a ma
      · rw [List.mem_singleton.mp ma]; exact hxm
    · exact hp.trans ((I.h.cons _))
    · exact List.nodup_cons.mpr ⟨fun m => by have := I.lt i m; omega, I.nd⟩
    · intro j mj
      rcases List.mem_cons.mp mj with rfl | mj
      · omega
      · have := I.lt j mj; omega
    · intro c mc
      rw [hkk] at mc
      by_cases hc : c = ks.getD i 0
      · exact ⟨i, .head _, hc.symm, hup⟩
      · have mc' : c ∈ kindsOf qa := by
          rcases List.mem_append.mp mc with mc | mc
          · exact mc
          · exact absurd (List.mem_singleton.mp mc) hc
        obtain ⟨j, mj, ej, lj⟩ := I.f c mc'
        exact ⟨j, .tail _ mj, ej, nxt_shift (I.lt j mj) (by omega) lj (by rw [ej]; exact hc)⟩
    · intro j mj lj
      rw [hkk]
      rcases List.mem_cons.mp mj with rfl | mj
      · exact List.mem_append_right _ (by simp)
      · exact List.mem_append_left _ (I.b j mj (by omega))
    · rw [hkk]
      refine .room K hin ?_
      rw [I.q, List.length_map] at hl
      rwa [kindsOf, List.length_map]
  | @full i m q h h' top B hq hl hp ht hmin ih =>
    obtain ⟨qa, js, I, K⟩ := ih (by omega)
    obtain ⟨hG, hxm⟩ := go_ask e hgo (show i < nn.length by omega) I.sub
    have hin : ks.getD i 0 ∉ kindsOf qa := by
      have := hG.has
      dsimp only at this
      rw [← I.q, hq] at this
      exact of_decide_eq_false this.symm
    have hup := nxt_up (ks := ks) (n := nn.length) (i := i) (by omega)
    have hl' : ¬ (kindsOf qa).length < room := by
      rw [I.q, List.length_map] at hl
      rwa [kindsOf, List.length_map]
    -- the top's place
    obtain ⟨jt, mjt, ejt⟩ := List.mem_map.mp (I.h.subset ht)
    have hjt := I.lt jt mjt
    -- its next asking is no earlier than that of any held kind
    have far : ∀ c ∈ kindsOf qa, ∃ j ∈ js, ks.getD j 0 = c ∧ (i : Int) ≤ nxt ks nn.length j ∧ nxt ks nn.length j ≤ nxt ks nn.length jt := by
      intro c mc
      obtain ⟨j, mj, ej, lj⟩ := I.f c mc
      have hk := key_le (hmin (bkey ks nn j) (I.h.symm.subset (List.mem_map_of_mem mj)))
      rw [← ejt] at hk
      unfold bkey at hk
      dsimp only at hk
      exact ⟨j, mj, ej, lj, by omega⟩
    have htop : (i : Int) ≤ nxt ks nn.length jt := by
      cases hqa : kindsOf qa with
      | nil => rw [hqa] at hl'; simp at hl'; omega
      | cons c r =>
        obtain ⟨j, mj, ej, lj, l2⟩ := far c (by rw [hqa]; exact .head _)
        omega
    have hct : ks.getD jt 0 ∈ kindsOf qa := I.b jt mjt htop
    have hG2 := (go_ask e hgo (show jt < nn.length by omega) I.sub).1
    have htn : top.2 = nn.getD jt default := by rw [← ejt]; rfl
    have hqd : dropS (dropS q top.2) (nn.getD i default) = (qa.filter fun y => decide (y.1 ≠ ks.getD jt 0)).map (·.2) := by
      have h1 := hG2.drop
      dsimp only at h1
      rw [htn, I.q, h1]
      have hG3 : Go ((ks.getD i 0, nn.getD i default) :: qa.filter fun y => decide (y.1 ≠ ks.getD jt 0)) := hG.sub fun a ma => by
        rcases List.mem_cons.mp ma with ma | ma
        · exact ma ▸ .head _
        · exact .tail _ (List.mem_filter.mp ma).1
      have h2 := hG3.drop
      dsimp only at h2
      rw [h2, filt_id]
      rw [kinds_filter]
      exact fun z => hin (List.mem_filter.mp z).1
    have hkk : kindsOf ((qa.filter fun y => decide (y.1 ≠ ks.getD jt 0)) ++ [(ks.getD i 0, nn.getD i default)]) = (kindsOf qa).filter (fun y => decide (y ≠ ks.getD jt 0)) ++ [ks.getD i 0] := by
      rw [kindsOf, List.map_append, ← kindsOf, kinds_filter]; rfl
    have hpe : js.Perm (jt :: js.erase jt) := List.perm_cons_erase mjt
    refine ⟨(qa.filter fun y => decide (y.1 ≠ ks.getD jt 0)) ++ [(ks.getD i 0, nn.getD i default)], i :: js.erase jt, ⟨?_, ?_, ?_, ?_, ?_, ?_, ?_⟩, ?_⟩
    · rw [hqd, List.map_append]; rfl
    · intro a ma
      rcases List.mem_append.mp ma with ma | ma
      · exact I.sub a (List.mem_filter.mp ma).1
      · rw [List.mem_singleton.mp ma]; exact hxm
    · have h1 : (top :: h').Perm (top :: (i :: js.erase jt).map (bkey ks nn)) := by
        refine hp.trans ((I.h.cons _).trans (((hpe.map _).cons _).trans ?_))
        rw [List.map_cons, List.map_cons, ejt]
        exact .swap _ _ _
      exact h1.cons_inv
    · exact List.nodup_cons.mpr ⟨fun z => by have := I.lt i (List.mem_of_mem_erase z); omega, I.nd.erase _⟩
    · intro j mj
      rcases List.mem_cons.mp mj with rfl | mj
      · omega
      · have := I.lt j (List.mem_of_mem_erase mj); omega
    · intro c mc
      rw [hkk] at mc
      by_cases hc : c = ks.getD i 0
      · exact ⟨i, .head _, hc.symm, hup⟩
      · have mc' : c ∈ kindsOf qa ∧ c ≠ ks.getD jt 0 := by
          rcases List.mem_append.mp mc with mc | mc
          · obtain ⟨a, b⟩ := List.mem_filter.mp mc
            exact ⟨a, of_decide_eq_true b⟩
          · exact absurd (List.mem_singleton.mp mc) hc
        obtain ⟨j, mj, ej, lj⟩ := I.f c mc'.1
        exact ⟨j, .tail _ ((List.mem_erase_of_ne fun z => mc'.2 (by rw [← ej, z])).mpr mj), ej, nxt_shift (I.lt j mj) (by omega) lj (by rw [ej]; exact hc)⟩
    · intro j mj lj
      rw [hkk]
      rcases List.mem_cons.mp mj with rfl | mj
      · exact List.mem_append_right _ (by simp)
      · have mj' := List.mem_of_mem_erase mj
        refine List.mem_append_left _ (List.mem_filter.mpr ⟨I.b j mj' (by omega), decide_eq_true fun z => ?_⟩)
        have hne : j ≠ jt := fun z => by rw [z] at mj; exact (List.Nodup.not_mem_erase I.nd) mj
        have hj := I.lt j mj'
        obtain ⟨u, eu, u1, u2, u3, u4⟩ := nxt_spec (ks := ks) (n := nn.length) (i := j) (by omega)
        obtain ⟨v, ev, v1, v2, v3, v4⟩ := nxt_spec (ks := ks) (n := nn.length) (i := jt) (by omega)
        rcases Nat.lt_or_gt_of_ne hne with hlt | hgt
        · exact u4 jt hlt (by rw [eu] at lj; omega) z.symm
        · exact v4 j hgt (by rw [ev] at htop; omega) z
    · rw [hkk]
      refine .full K hin hl' hct fun y my hy pre post hpp => ?_
      obtain ⟨j, mj, ej, lj, l2⟩ := far y my
      have hj := I.lt j mj
      obtain ⟨u, eu, u1, u2, u3, u4⟩ := nxt_spec (ks := ks) (n := nn.length) (i := j) (by omega)
      obtain ⟨v, ev, v1, v2, v3, v4⟩ := nxt_spec (ks := ks) (n := nn.length) (i := jt) (by omega)
      rw [eu] at lj l2
      rw [ev] at l2 htop
      -- the asking of the top's kind behind pre
      have hlen : i + 1 + pre.length < ks.length := by
        have := congrArg List.length hpp
        rw [List.length_drop, List.length_append, List.length_cons] at this
        omega
      have hat : ks.getD (i + 1 + pre.length) 0 = ks.getD jt 0 := by
        have h1 : (ks.drop (i + 1))[pre.length]? = some (ks.getD jt 0) := by rw [hpp, List.getElem?_append_right (Nat.le_refl _)]; simp
        rw [List.getElem?_drop] at h1
        rw [List.getD_eq_getElem?_getD, h1]; rfl
      have hv : v ≤ i + 1 + pre.length := by
        rcases Nat.lt_or_ge (i + 1 + pre.length) v with z | z
        · exact absurd hat (v4 _ (by omega) z)
        · exact z
      have hun : u < nn.length := by omega
      have huy : ks.getD u 0 = y := by rw [u3 hun, ej]
      have hui : u ≠ i := fun z => hin (by rw [← z, huy]; exact my)
      have hup : u ≠ i + 1 + pre.length := fun z => hy (by rw [← huy, z, hat])
      have h2 : (ks.drop (i + 1))[u - (i + 1)]? = some y := by
        rw [List.getElem?_drop, show i + 1 + (u - (i + 1)) = u by omega, ← huy]
        exact getD_some (by omega)
      rw [hpp, List.getElem?_append_left (by omega)] at h2
      exact List.mem_of_getElem? h2
def setl (c : List Int) : KS := fun j => decide (j ∈ c)
theorem ins_setl (c : List Int) (k : Int) : ins (setl c) k = setl (c ++ [k]) := by
  funext j
  unfold ins setl
  rw [Bool.eq_iff_iff]
  simp only [Bool.or_eq_true, decide_eq_true_eq, List.mem_append, List.mem_singleton]
  exact Or.comm
theorem rep_setl (c : List Int) (x k : Int) : rep (setl c) x k = setl (c.filter (fun y => decide (y ≠ x)) ++ [k]) := by
  funext j
  unfold rep setl
  rw [Bool.eq_iff_iff]
  simp only [Bool.or_eq_true, Bool.and_eq_true, decide_eq_true_eq, List.mem_append, List.mem_singleton, List.mem_filter]
  exact Or.comm
theorem filter_len {x : Int} : ∀ {c : List Int}, c.Nodup → x ∈ c → (c.filter (fun y => decide (y ≠ x))).length + 1 = c.length
  | [], _, h => by simp at h
  | a :: r, nd, h => by
    rw [List.nodup_cons] at nd
    by_cases ha : a = x
    · rw [List.filter_cons_of_neg (by simpa using ha)]
      have : r.filter (fun y => decide (y ≠ x)) = r := List.filter_eq_self.mpr fun y m => decide_eq_true fun e => nd.1 (by rw [ha, ← e]; exact m)
      rw [this, List.length_cons]
    · rw [List.filter_cons_of_pos (by simpa using ha), List.length_cons, List.length_cons]
      have hm : x ∈ r := by
        rcases List.mem_cons.mp h with h | h
        · exact absurd h.symm ha
        · exact h
      have := filter_len nd.2 hm
      omega
theorem kb_nodup {ks : List Int} {room i : Nat} {m : Int} {c : List Int} (K : KB ks room i m c) : c.Nodup ∧ c.length ≤ room := by
  induction K with
  | zero => simp
  | hit _ _ ih => exact ih
  | room _ hn hl ih =>
    refine ⟨?_, by simp; omega⟩
    rw [List.nodup_append]
    exact ⟨ih.1, by simp, fun a ha b hb e => hn (by rw [← List.mem_singleton.mp hb, ← e]; exact ha)⟩
  | full _ hn hl hx _ ih =>
    have := filter_len ih.1 hx
    refine ⟨?_, by simp; simp at this; omega⟩
    rw [List.nodup_append]
    exact ⟨ih.1.filter _, by simp, fun a ha b hb e => hn (by rw [← List.mem_singleton.mp hb, ← e]; exact (List.mem_filter.mp ha).1)⟩
theorem drop_cons {ks : List Int} {i : Nat} (h : i < ks.length) : ks.drop i = ks.getD i 0 :: ks.drop (i + 1) := by
  rw [List.drop_eq_getElem_cons h, List.getD_eq_getElem?_getD, List.getElem?_eq_getElem h]; rfl
theorem kb_opt {ks : List Int} {room i : Nat} {m : Int} {c : List Int} (K : KB ks room i m c) (hi : i ≤ ks.length) :
    (∀ p, Cost room 0 ks (fun _ => false) p → ∃ p', Cost room c.length (ks.drop i) (setl c) p' ∧ m + p' ≤ p) ∧
    (∀ p', Cost room c.length (ks.drop i) (setl c) p' → Cost room 0 ks (fun _ => false) (m + p')) := by
  induction K with
  | zero =>
    have e : setl [] = fun _ => false := by funext j; simp [setl]
    rw [e, List.drop_zero]
    exact ⟨fun p h => ⟨p, h, by omega⟩, fun p' h => by rw [Int.zero_add]; exact h⟩
  | @hit i m c K hin ih =>
    obtain ⟨a, b⟩ := ih (by omega)
    rw [drop_cons (by omega)] at a b
    have hs : setl c (ks.getD i 0) = true := decide_eq_true hin
    refine ⟨fun p h => ?_, fun p' h => b p' (.hit hs h)⟩
    obtain ⟨p', h1, h2⟩ := a p h
    cases h1 with
    | hit _ h1 => exact ⟨p', h1, h2⟩
    | room q _ _ => rw [hs] at q; cases q
    | full q _ _ _ => rw [hs] at q; cases q
  | @room i m c K hn hl ih =>
    obtain ⟨a, b⟩ := ih (by omega)
    rw [drop_cons (by omega)] at a b
    have hs : setl c (ks.getD i 0) = false := decide_eq_false hn
    have el : ((c ++ [ks.getD i 0]).length : Int) = c.length + 1 := by simp
    rw [← ins_setl, el]
    refine ⟨fun p h => ?_, fun p' h => ?_⟩
    · obtain ⟨p', h1, h2⟩ := a p h
      cases h1 with
      | hit q _ => rw [hs] at q; cases q
      | @room _ _ _ _ p1 _ _ h1 => exact ⟨p1, h1, by omega⟩
      | full _ q _ _ => exact absurd q (by simp; omega)
    · have := b (p' + 1) (.room hs (by omega) h)
      rw [show m + 1 + p' = m + (p' + 1) by omega]; exact this
  | @full i m c x K hn hl hx hf ih =>
    obtain ⟨a, b⟩ := ih (by omega)
    rw [drop_cons (by omega)] at a b
    have hs : setl c (ks.getD i 0) = false := decide_eq_false hn
    have hsx : setl c x = true := decide_eq_true hx
    have hl' : ¬ ((c.length : Int) < (room : Int)) := by omega
    have el : ((c.filter (fun y => decide (y ≠ x)) ++ [ks.getD i 0]).length : Int) = c.length := by
      have := filter_len (kb_nodup K).1 hx
      rw [List.length_append, List.length_singleton]; omega
    rw [← rep_setl, el]
    clear el
    generalize ks.getD i 0 = k at *
    refine ⟨fun p h => ?_, fun p' h => ?_⟩
    · obtain ⟨p', h1, h2⟩ := a p h
      cases h1 with
      | hit q _ => rw [hs] at q; cases q
      | room _ q _ => exact absurd q hl'
      | @full _ _ _ o _ p1 _ _ ho h1 =>
        by_cases hox : o = x
        · subst hox; exact ⟨p1, h1, by omega⟩
        · have hoc : o ∈ c := of_decide_eq_true ho
          have hkx : k ≠ x := fun e => hn (by rw [e]; exact hx)
          have hko : k ≠ o := fun e => hn (by rw [e]; exact hoc)
          have c1 : rep (setl c) o k x = true := by
            unfold rep; rw [hsx]; simp; exact .inr fun e => hox e.symm
          have c2 : rep (setl c) o k o = false := by
            unfold rep; simp; exact fun e => hko e.symm
          obtain ⟨_, i2⟩ := exch hl' _ _ x o p1 c1 c2 h1
          obtain ⟨p2, l2, h2'⟩ := i2 (hf o hoc hox)
          have e2 : rep (rep (setl c) o k) x o = rep (setl c) x k := by
            funext j
            unfold rep
            by_cases z1 : j = k
            · subst z1; simp [hkx]
            · by_cases z2 : j = o
              · subst z2; rw [ho]; simp [hox]
              · simp [z1, z2]
          rw [e2] at h2'
          exact ⟨p2, h2', by omega⟩
    · have := b (p' + 1) (.full hs hl' hsx h)
      rw [show m + 1 + p' = m + (p' + 1) by omega]; exact this
/-- the second table misses as few as any -/
theorem kb_law {ks : List Int} {room : Nat} {m : Int} {c : List Int} (K : KB ks room ks.length m c) : Cost room 0 ks (fun _ => false) m ∧ ∀ p, Cost room 0 ks (fun _ => false) p → m ≤ p := by
  obtain ⟨a, b⟩ := kb_opt K (Nat.le_refl _)
  rw [List.drop_length] at a b
  refine ⟨by have := b 0 .nil; rwa [Int.add_zero] at this, fun p h => ?_⟩
  obtain ⟨p', h1, h2⟩ := a p h
  cases h1
  omega
theorem bel_fewest {ks : List Int} {room : Nat} {m : Int} {c : List Int} (hr : 1 ≤ room) (hk : ∀ k ∈ ks, 0 ≤ k ∧ k < 5) (K : KB ks room ks.length m c) :
    (drun room ks).1 ≠ [] ∧ ∀ M, M ∈ (drun room ks).1.map (·.2) → (∀ a ∈ (drun room ks).1.map (·.2), M ≤ a) → M = m := by
  obtain ⟨h1, h2⟩ := kb_law K
  obtain ⟨d1, d2⟩ := dp_law (h := room) hk (by omega)
  obtain ⟨M0, m0, l0⟩ := d1 m h1
  refine ⟨fun e => by rw [e] at m0; simp at m0, fun M hM hmin => ?_⟩
  have a1 := h2 M (d2 M hM)
  have a2 := hmin M0 m0
  omega
abbrev without (l : List Int) (k : Int) : List Int := l.filter fun y => decide (y ≠ k)
/-- the kinds by their last askings, the latest first -/
def rk (ks : List Int) : Nat → List Int
  | 0 => []
  | i + 1 => ks.getD i 0 :: without (rk ks i) (ks.getD i 0)
theorem rk_eq (ks : List Int) (nn : List Str) (e : ks.length = nn.length) : ∀ i, i ≤ ks.length → kindsOf (D (Pre (ks.zip nn) i)) = rk ks i
  | 0, _ => by rw [D_zero]; rfl
  | i + 1, h => by
    have hx := zip_get (ks := ks) (nn := nn) (i := i) (by omega) e
    rw [Pre_succ hx, D, kindsOf, List.map_cons, ← kindsOf, kinds_filter, rk_eq ks nn e i (by omega)]
    rfl
theorem without_id {l : List Int} {k : Int} (h : k ∉ l) : without l k = l := List.filter_eq_self.mpr fun y m => decide_eq_true fun e => h (e ▸ m)
theorem rk_nodup (ks : List Int) : ∀ i, (rk ks i).Nodup
  | 0 => by simp [rk]
  | i + 1 => by
    rw [rk, List.nodup_cons]
    exact ⟨fun h => by have := (List.mem_filter.mp h).2; simp at this, (rk_nodup ks i).filter _⟩
theorem wA : ∀ (R : List Int) (r : Nat) (k : Int), R.Nodup → k ∈ R.take r → (without R k).take (r - 1) = without (R.take r) k
  | [], r, k, _, h => by simp at h
  | x :: R, 0, k, _, h => by simp at h
  | x :: R, r + 1, k, nd, h => by
    rw [List.nodup_cons] at nd
    rw [List.take_succ_cons]
    by_cases hk : x = k
    · have hk' : k ∉ R := hk ▸ nd.1
      rw [without, without, List.filter_cons_of_neg (by simpa using hk), List.filter_cons_of_neg (by simpa using hk), ← without, ← without, without_id hk', without_id (fun q => hk' (List.mem_of_mem_take q))]
      simp
    · rw [without, without, List.filter_cons_of_pos (by simpa using hk), List.filter_cons_of_pos (by simpa using hk), ← without, ← without]
      have h' : k ∈ R.take r := by
        rw [List.take_succ_cons, List.mem_cons] at h
        rcases h with h | h
        · exact absurd h.symm hk
        · exact h
      rw [← wA R r k nd.2 h']
      cases r with
      | zero => simp at h'
      | succ r => simp
theorem wB : ∀ (R : List Int) (r : Nat) (k : Int), k ∉ R.take r → (without R k).take r = R.take r
  | [], r, k, _ => by simp [without]
  | x :: R, 0, k, _ => by simp
  | x :: R, r + 1, k, h => by
    rw [List.take_succ_cons, List.mem_cons, not_or] at h
    rw [without, List.filter_cons_of_pos (by simpa using fun e => h.1 e.symm), List.take_succ_cons, List.take_succ_cons, ← without, wB R r k h.2]
theorem sub_len : ∀ {l l' : List Int}, l.Nodup → (∀ x ∈ l, x ∈ l') → l.length ≤ l'.length
  | [], l', _, _ => by simp
  | a :: l, l', nd, h => by
    rw [List.nodup_cons] at nd
    have ha := h a (.head _)
    have := sub_len (l' := l'.erase a) nd.2 fun x m => (List.mem_erase_of_ne (show x ≠ a from fun e => nd.1 (by rw [← e]; exact m))).mpr (h x (.tail _ m))
    rw [List.length_erase_of_mem ha] at this
    have : 0 < l'.length := List.length_pos_of_mem ha
    rw [List.length_cons]; omega
/-- what the held ones weigh that the other does not hold -/
def Wt (P : Int → Bool) : List Int → Int
  | [] => 0
  | x :: t => (if P x then (t.length : Int) + 1 else 0) + Wt P t
def cnt (P : Int → Bool) : List Int → Int
  | [] => 0
  | x :: t => (if P x then 1 else 0) + cnt P t
theorem Wt_congr {P P' : Int → Bool} : ∀ {l : List Int}, (∀ x ∈ l, P x = P' x) → Wt P l = Wt P' l
  | [], _ => rfl
  | a :: l, h => by rw [Wt, Wt, h a (.head _), Wt_congr fun x m => h x (.tail _ m)]
theorem Wt_without {P : Int → Bool} {k : Int} : ∀ l : List Int, Wt P (without l k) ≤ Wt P l
  | [] => Int.le_refl _
  | a :: l => by
    have ih := Wt_without (P := P) (k := k) l
    have hl : (without l k).length ≤ l.length := List.length_filter_le _ _
    by_cases h : a = k
    · rw [without, List.filter_cons_of_neg (by simpa using h), ← without, Wt]
      split <;> omega
    · rw [without, List.filter_cons_of_pos (by simpa using h), ← without, Wt, Wt]
      split <;> omega
theorem Wt_flip {P P' : Int → Bool} {x : Int} : ∀ {l : List Int}, l.Nodup → (∀ y ∈ l, y ≠ x → P' y = P y) → Wt P' l ≤ Wt P l + l.length
  | [], _, _ => by simp [Wt]
  | a :: l, nd, h => by
    rw [List.nodup_cons] at nd
    have hn : 0 ≤ (l.length : Int) := by omega
    by_cases ha : a = x
    · have e : Wt P' l = Wt P l := Wt_congr fun y m => h y (.tail _ m) fun e => nd.1 (by rw [ha, ← e]; exact m)
      rw [Wt, Wt, e, List.length_cons]
      split <;> split <;> omega
    · have ih := Wt_flip (x := x) nd.2 fun y m => h y (.tail _ m)
      rw [Wt, Wt, h a (.head _) ha, List.length_cons]
      split <;> omega
theorem Wt_last {P : Int → Bool} : ∀ (l : List Int), l ≠ [] → Wt P l.dropLast = Wt P l - cnt P l
  | [], h => absurd rfl h
  | [a], _ => by simp only [List.dropLast_singleton, Wt, cnt]; split <;> simp
  | a :: b :: l, _ => by
    have ih := Wt_last (P := P) (b :: l) (by simp)
    rw [List.dropLast_cons_of_ne_nil (by simp), Wt, Wt, cnt, ih]
    have : ((b :: l).dropLast.length : Int) = (b :: l).length - 1 := by rw [List.length_dropLast]; simp
    rw [this]
    split <;> omega
theorem cnt_eq {q : List Int} : ∀ (l : List Int), cnt (fun y => decide (y ∉ q)) l + ((l.filter fun y => decide (y ∈ q)).length : Int) = l.length
  | [] => rfl
  | a :: l => by
    have ih := cnt_eq (q := q) l
    rw [cnt, List.length_cons]
    by_cases h : a ∈ q
    · rw [List.filter_cons_of_pos (by simpa using h), List.length_cons]
      simp only [h, not_true, decide_false, Bool.false_eq_true, if_false]
      omega
    · rw [List.filter_cons_of_neg (by simpa using h)]
      simp only [h, not_false_eq_true, decide_true, if_true]
      omega
theorem cnt_ge {q l : List Int} (nd : l.Nodup) : (l.length : Int) ≤ cnt (fun y => decide (y ∉ q)) l + q.length := by
  have h1 := cnt_eq (q := q) l
  have h2 := sub_len (l := l.filter fun y => decide (y ∈ q)) (l' := q) (nd.filter _) fun x m => of_decide_eq_true (List.mem_filter.mp m).2
  omega
theorem cnt_ge' {q l : List Int} {c : Int} (nd : l.Nodup) (hq : q.Nodup) (hc : c ∈ q) (hl : c ∉ l) : (l.length : Int) + 1 ≤ cnt (fun y => decide (y ∉ q)) l + q.length := by
  have h1 := cnt_eq (q := q) l
  have h2 := sub_len (l := l.filter fun y => decide (y ∈ q)) (l' := without q c) (nd.filter _) fun x m => by
    obtain ⟨a, b⟩ := List.mem_filter.mp m
    exact List.mem_filter.mpr ⟨of_decide_eq_true b, decide_eq_true fun e => hl (e ▸ a)⟩
  have h3 : (without q c).length + 1 = q.length := filter_len hq hc
  omega
theorem cnt_le {q l : List Int} (nd : q.Nodup) (h : ∀ x ∈ q, x ∈ l) : cnt (fun y => decide (y ∉ q)) l + q.length ≤ l.length := by
  have h1 := cnt_eq (q := q) l
  have h2 := sub_len (l := q) (l' := l.filter fun y => decide (y ∈ q)) nd fun x m => List.mem_filter.mpr ⟨h x m, decide_eq_true m⟩
  omega
def WtB : List Bool → Int
  | [] => 0
  | b :: t => (if b then (t.length : Int) + 1 else 0) + WtB t
def cntB : List Bool → Int
  | [] => 0
  | b :: t => (if b then 1 else 0) + cntB t
theorem Wt_map {P : Int → Bool} : ∀ l : List Int, Wt P l = WtB (l.map P)
  | [] => rfl
  | a :: l => by rw [List.map_cons, Wt, WtB, Wt_map l, List.length_map]
theorem cnt_map {P : Int → Bool} : ∀ l : List Int, cnt P l = cntB (l.map P)
  | [] => rfl
  | a :: l => by rw [List.map_cons, cnt, cntB, cnt_map l]
abbrev lowG (r : Nat) (u : List Bool) : Prop := ∀ h : Fin 5, 1 ≤ h.val → h.val ≤ r → (r : Int) ≤ cntB u + h.val → ((r : Int) - h.val) * (r - h.val + 1) ≤ 2 * WtB u
abbrev highG (r : Nat) (u : List Bool) : Prop := ∀ h : Fin 5, 1 ≤ h.val → h.val ≤ r → cntB u + h.val ≤ r → 2 * WtB u ≤ 2 * (r * (h.val - 1)) + ((r : Int) - h.val) * (r - h.val + 1)
theorem low1 : ∀ a : Bool, lowG 1 [a] := by decide +kernel
theorem low2 : ∀ a b : Bool, lowG 2 [a, b] := by decide +kernel
theorem low3 : ∀ a b c : Bool, lowG 3 [a, b, c] := by decide +kernel
theorem low4' : ∀ a b c d : Bool, lowG 4 [a, b, c, d] := by decide +kernel
theorem high1 : highG 1 [false] := by decide +kernel
theorem high2 : ∀ a : Bool, highG 2 [false, a] := by decide +kernel
theorem high3 : ∀ a b : Bool, highG 3 [false, a, b] := by decide +kernel
theorem high4' : ∀ a b c : Bool, highG 4 [false, a, b, c] := by decide +kernel
theorem lowAll : ∀ u : List Bool, u.length ≤ 4 → 1 ≤ u.length → lowG u.length u
  | [a], _, _ => low1 a
  | [a, b], _, _ => low2 a b
  | [a, b, c], _, _ => low3 a b c
  | [a, b, c, d], _, _ => low4' a b c d
theorem highAll : ∀ u : List Bool, u.length ≤ 3 → highG (u.length + 1) (false :: u)
  | [], _ => high1
  | [a], _ => high2 a
  | [a, b], _ => high3 a b
  | [a, b, c], _ => high4' a b c
theorem low4 {P : Int → Bool} {l : List Int} {r h : Nat} (hl : l.length = r) (hr : r ≤ 4) (hh : 1 ≤ h) (hhr : h ≤ r) (hc : (r : Int) ≤ cnt P l + h) : ((r : Int) - h) * (r - h + 1) ≤ 2 * Wt P l := by
  subst hl
  rw [cnt_map] at hc
  rw [Wt_map]
  have := lowAll (l.map P) (by rw [List.length_map]; exact hr) (by rw [List.length_map]; omega)
  rw [List.length_map] at this
  exact this ⟨h, by omega⟩ hh hhr hc
theorem high4 {P : Int → Bool} {x : Int} {t : List Int} {r h : Nat} (hx : P x = false) (hl : (x :: t).length = r) (hr : r ≤ 4) (hh : 1 ≤ h) (hhr : h ≤ r) (hc : cnt P (x :: t) + h ≤ r) : 2 * Wt P (x :: t) ≤ 2 * (r * (h - 1)) + ((r : Int) - h) * (r - h + 1) := by
  subst hl
  rw [cnt_map, List.map_cons, hx] at hc
  rw [Wt_map, List.map_cons, hx]
  rw [List.length_cons] at *
  have := highAll (t.map P) (by rw [List.length_map]; omega)
  rw [List.length_map] at this
  exact this ⟨h, by omega⟩ hh hhr hc
abbrev outP (c : List Int) : Int → Bool := fun y => decide (y ∉ c)
/-- what holds between the two tables: R the kinds by recency, c the other's, lb and m the misses -/
structure Two (r h : Nat) (R c : List Int) (lb m : Int) : Prop where
  sub : ∀ x ∈ c, x ∈ R
  less : c.length < h → ∀ x ∈ R, x ∈ c
  few : R.length < r → lb = R.length ∧ (R.length : Int) ≤ m
  full : r ≤ R.length → 2 * (((r : Int) - h + 1) * lb) + 2 * Wt (outP c) (R.take r) ≤ 2 * (r * m) + ((r : Int) - h) * (r - h + 1)
theorem two_step {r h : Nat} {R c c' : List Int} {lb m m' k : Int} (hh : 1 ≤ h) (hhr : h ≤ r) (hr4 : r ≤ 4) (nd : R.Nodup) (T : Two r h R c lb m)
    (hc' : c'.Nodup) (hl' : c'.length ≤ h) (hk' : k ∈ c') (sub' : ∀ x ∈ c', x ∈ k :: without R k) (less' : c'.length < h → ∀ x ∈ k :: without R k, x ∈ c')
    (st : (m' = m ∧ k ∈ c ∧ c' = c) ∨ (m' = m + 1 ∧ k ∉ c ∧ ∃ x, ∀ y, y ≠ k → y ≠ x → (y ∈ c' ↔ y ∈ c))) :
    Two r h (k :: without R k) c' (if k ∉ R.take r then lb + 1 else lb) m' := by
  have hPk : outP c' k = false := decide_eq_false (fun q => q hk')
  have hm' : m ≤ m' := by rcases st with ⟨e, _⟩ | ⟨e, _⟩ <;> omega
  have hwl : (without R k).length ≤ R.length := List.length_filter_le _ _
  -- a miss of the other one
  have hmiss : k ∉ R → m' = m + 1 := fun q => by
    rcases st with ⟨_, a, _⟩ | ⟨e, _⟩
    · exact absurd (T.sub k a) q
    · exact e
  have flip : ∀ l : List Int, l.Nodup → k ∉ l → r * m + Wt (outP c') l ≤ r * m' + Wt (outP c) l ∨ (l.length ≤ r → r * m + Wt (outP c') l ≤ r * m' + Wt (outP c) l) := by
    intro l ndl hkl
    rcases st with ⟨e, _, ec⟩ | ⟨e, _, x, hx⟩
    · left; rw [e, ec]; exact Int.le_refl _
    · right
      intro hl
      have := Wt_flip (P := outP c) (P' := outP c') (x := x) ndl fun y my hy => by
        have hyk : y ≠ k := fun z => hkl (z ▸ my)
        simp only [outP, hx y hyk hy]
      rw [e, Int.mul_add]
      omega
  refine ⟨sub', less', fun hlt => ?_, fun hge => ?_⟩
  · rw [List.length_cons] at hlt ⊢
    by_cases hkR : k ∈ R
    · have hf : (without R k).length + 1 = R.length := filter_len nd hkR
      obtain ⟨a, b⟩ := T.few (by omega)
      have ht : R.take r = R := List.take_of_length_le (by omega)
      rw [ht, if_neg (by simpa using hkR)]
      constructor
      · omega
      · omega
    · have hf : without R k = R := without_id hkR
      rw [hf] at hlt ⊢
      obtain ⟨a, b⟩ := T.few (by omega)
      have ht : R.take r = R := List.take_of_length_le (by omega)
      have := hmiss hkR
      rw [ht, if_pos hkR]
      constructor
      · omega
      · omega
  · by_cases hRr : R.length < r
    · -- the first table is full from here on
      rw [List.length_cons] at hge
      have hkR : k ∉ R := fun q => by
        have hf : (without R k).length + 1 = R.length := filter_len nd q
        omega
      have hf : without R k = R := without_id hkR
      rw [hf] at hge sub' less' ⊢
      obtain ⟨a, b⟩ := T.few hRr
      have hm1 := hmiss hkR
      have ht : R.take r = R := List.take_of_length_le (by omega)
      have hlen : (k :: R).length = r := by rw [List.length_cons]; omega
      have ht2 : (k :: R).take r = k :: R := List.take_of_length_le (by omega)
      have hcl : c'.length = h := by
        rcases Nat.lt_or_ge c'.length h with q | q
        · have := sub_len (l := k :: R) (l' := c') (List.nodup_cons.mpr ⟨hkR, nd⟩) (less' q)
          omega
        · omega
      have hcnt : cnt (outP c') (k :: R) + c'.length ≤ (k :: R).length := cnt_le hc' sub'
      have hW := high4 (P := outP c') hPk hlen hr4 hh hhr (by omega)
      rw [ht, if_pos hkR, ht2]
      have hlb : lb + 1 = r := by omega
      rw [hlb]
      have hmr : (r : Int) ≤ m' := by omega
      have hmm : (r : Int) * r ≤ r * m' := Int.mul_le_mul_of_nonneg_left hmr (by omega)
      have hid : ((r : Int) - h + 1) * r + r * (h - 1) = r * r := by
        rw [Int.mul_comm ((r : Int) - h + 1) r, ← Int.mul_add]
        congr 1; omega
      omega
    · have hR : r ≤ R.length := by omega
      have hF := T.full hR
      obtain ⟨r', hr'⟩ : ∃ r', r = r' + 1 := ⟨r - 1, by omega⟩
      have hTl : (R.take r).length = r := by rw [List.length_take]; omega
      have ndT : (R.take r).Nodup := nd.sublist (List.take_sublist _ _)
      have htk : (k :: without R k).take r = k :: (without R k).take (r - 1) := by rw [hr']; simp
      rw [htk]
      have hW0 : Wt (outP c') (k :: (without R k).take (r - 1)) = Wt (outP c') ((without R k).take (r - 1)) := by
        rw [Wt, hPk]; simp
      rw [hW0]
      by_cases hkT : k ∈ R.take r
      · rw [if_neg (by simpa using hkT), wA R r k nd hkT]
        have h1 := Wt_without (P := outP c) (k := k) (R.take r)
        have h2 : r * m + Wt (outP c') (without (R.take r) k) ≤ r * m' + Wt (outP c) (without (R.take r) k) := by
          have hkw : k ∉ without (R.take r) k := fun q => by have := (List.mem_filter.mp q).2; simp at this
          have hlw : (without (R.take r) k).length ≤ r := by
            have : (without (R.take r) k).length ≤ (R.take r).length := List.length_filter_le _ _
            omega
          rcases flip _ (ndT.filter _) hkw with q | q
          · exact q
          · exact q hlw
        omega
      · rw [if_pos hkT]
        have hB := wB R r k hkT
        have hB' : (without R k).take (r - 1) = (R.take r).dropLast := by
          rw [List.dropLast_eq_take, hTl, List.take_take, show min (r - 1) r = r - 1 by omega]
          have := congrArg (List.take (r - 1)) hB
          rw [List.take_take, List.take_take, show min (r - 1) r = r - 1 by omega] at this
          exact this
        rw [hB', Wt_last _ (by intro q; rw [q] at hTl; simp at hTl; omega)]
        have h1 : ((R.take r).length : Int) + 1 ≤ cnt (outP c') (R.take r) + c'.length := cnt_ge' ndT hc' hk' hkT
        have h2 : r * m + Wt (outP c') (R.take r) ≤ r * m' + Wt (outP c) (R.take r) := by
          rcases flip _ ndT hkT with q | q
          · exact q
          · exact q (by omega)
        have h3 : ((r : Int) - h + 1) * (lb + 1) = ((r : Int) - h + 1) * lb + ((r : Int) - h + 1) := by rw [Int.mul_add, Int.mul_one]
        rw [h3]
        rw [hTl] at h1
        omega
theorem st_run {ks : List Int} {nn : List Str} (e : ks.length = nn.length) {r h : Nat} (hh : 1 ≤ h) (hhr : h ≤ r) (hr4 : r ≤ 4) {i : Nat} {m : Int} {c : List Int} (K : KB ks h i m c) (hi : i ≤ ks.length) :
    Two r h (rk ks i) c (lbCount ks r i) m := by
  have lbs : ∀ i, i < ks.length → lbCount ks r (i + 1) = if ks.getD i 0 ∉ (rk ks i).take r then lbCount ks r i + 1 else lbCount ks r i := fun i hi => by
    have := lbMiss_iff ks nn e r i hi
    rw [rk_eq ks nn e i (by omega)] at this
    rw [lbCount]
    by_cases q : lbMiss ks r i
    · rw [if_pos q, if_pos (this.mp q)]
    · rw [if_neg q, if_neg (fun z => q (this.mpr z))]
  induction K with
  | zero =>
    refine ⟨by simp, fun _ x hx => by simp [rk] at hx, fun _ => by simp [rk, lbCount], fun q => ?_⟩
    simp [rk] at q; omega
  | @hit i m c K hin ih =>
    have T := ih (by omega)
    have nd := kb_nodup K
    rw [lbs i (by omega), rk]
    have mem : ∀ x, x ∈ ks.getD i 0 :: without (rk ks i) (ks.getD i 0) → x = ks.getD i 0 ∨ x ∈ rk ks i := fun x hx => by
      rcases List.mem_cons.mp hx with q | q
      · exact .inl q
      · exact .inr (List.mem_filter.mp q).1
    refine two_step hh hhr hr4 (rk_nodup ks i) T nd.1 nd.2 hin (fun x hx => ?_) (fun q x hx => ?_) (.inl ⟨rfl, hin, rfl⟩)
    · by_cases hxk : x = ks.getD i 0
      · rw [hxk]; exact .head _
      · exact .tail _ (List.mem_filter.mpr ⟨T.sub x hx, decide_eq_true hxk⟩)
    · rcases mem x hx with z | z
      · rw [z]; exact hin
      · exact T.less q x z
  | @room i m c K hn hl ih =>
    have T := ih (by omega)
    have nd' := kb_nodup (KB.room K hn hl)
    rw [lbs i (by omega), rk]
    have mem : ∀ x, x ∈ ks.getD i 0 :: without (rk ks i) (ks.getD i 0) → x = ks.getD i 0 ∨ x ∈ rk ks i := fun x hx => by
      rcases List.mem_cons.mp hx with q | q
      · exact .inl q
      · exact .inr (List.mem_filter.mp q).1
    refine two_step hh hhr hr4 (rk_nodup ks i) T nd'.1 nd'.2 (List.mem_append_right _ (List.mem_singleton.mpr rfl)) (fun x hx => ?_) (fun q x hx => ?_) (.inr ⟨rfl, hn, ks.getD i 0, fun y hy _ => ?_⟩)
    · by_cases hxk : x = ks.getD i 0
      · rw [hxk]; exact .head _
      · rcases List.mem_append.mp hx with z | z
        · exact .tail _ (List.mem_filter.mpr ⟨T.sub x z, decide_eq_true hxk⟩)
        · exact absurd (List.mem_singleton.mp z) hxk
    · rw [List.length_append, List.length_singleton] at q
      rcases mem x hx with z | z
      · rw [z]; exact List.mem_append_right _ (List.mem_singleton.mpr rfl)
      · exact List.mem_append_left _ (T.less (by omega) x z)
    · rw [List.mem_append, List.mem_singleton]
      exact ⟨fun z => z.elim id fun w => absurd w hy, .inl⟩
  | @full i m c x K hn hl hx hf ih =>
    have T := ih (by omega)
    have nd := kb_nodup K
    have nd' := kb_nodup (KB.full K hn hl hx hf)
    rw [lbs i (by omega), rk]
    refine two_step hh hhr hr4 (rk_nodup ks i) T nd'.1 nd'.2 (List.mem_append_right _ (List.mem_singleton.mpr rfl)) (fun y hy => ?_) (fun q => ?_) (.inr ⟨rfl, hn, x, fun y hy hyx => ?_⟩)
    · by_cases hyk : y = ks.getD i 0
      · rw [hyk]; exact .head _
      · rcases List.mem_append.mp hy with z | z
        · exact .tail _ (List.mem_filter.mpr ⟨T.sub y (List.mem_filter.mp z).1, decide_eq_true hyk⟩)
        · exact absurd (List.mem_singleton.mp z) hyk
    · have := filter_len nd.1 hx
      rw [List.length_append, List.length_singleton] at q
      omega
    · rw [List.mem_append, List.mem_singleton, List.mem_filter]
      exact ⟨fun z => z.elim (fun w => w.1) fun w => absurd w hy, fun z => .inl ⟨z, decide_eq_true hyx⟩⟩
/-- the bound, and how many the second table holds at the end -/
theorem st_law {ks : List Int} {nn : List Str} (e : ks.length = nn.length) {r h : Nat} (hh : 1 ≤ h) (hhr : h ≤ r) (hr4 : r ≤ 4) {m : Int} {c : List Int} (K : KB ks h ks.length m c) :
    ((r : Int) - h + 1) * lbCount ks r ks.length ≤ r * m ∧ c.length = ((lkRun ks nn nn.length).2.take h).reverse.length := by
  have T := st_run (nn := nn) e hh hhr hr4 K (Nat.le_refl _)
  have nd := kb_nodup K
  constructor
  · by_cases hR : (rk ks ks.length).length < r
    · obtain ⟨a, b⟩ := T.few hR
      rw [a]
      have h0 : (0 : Int) ≤ (rk ks ks.length).length := by omega
      have h1 : ((r : Int) - h + 1) * (rk ks ks.length).length ≤ r * (rk ks ks.length).length := Int.mul_le_mul_of_nonneg_right (by omega) h0
      have h2 : (r : Int) * (rk ks ks.length).length ≤ r * m := Int.mul_le_mul_of_nonneg_left b (by omega)
      omega
    · have hF := T.full (by omega)
      have hTl : ((rk ks ks.length).take r).length = r := by rw [List.length_take]; omega
      have ndT : ((rk ks ks.length).take r).Nodup := (rk_nodup ks _).sublist (List.take_sublist _ _)
      have h1 : (((rk ks ks.length).take r).length : Int) ≤ cnt (outP c) ((rk ks ks.length).take r) + c.length := cnt_ge (q := c) ndT
      rw [hTl] at h1
      have h2 := low4 (P := outP c) hTl hr4 hh hhr (by omega)
      omega
  · rw [lk_all ks nn e, ← e]
    dsimp only
    rw [List.length_reverse, List.length_take, List.length_map]
    have hl : (D (Pre (ks.zip nn) ks.length)).length = (rk ks ks.length).length := by
      rw [← rk_eq ks nn e ks.length (Nat.le_refl _), kindsOf, List.length_map]
    rw [hl]
    have h1 := sub_len nd.1 T.sub
    rcases Nat.lt_or_ge c.length h with q | q
    · have := sub_len (rk_nodup ks ks.length) (T.less q)
      omega
    · omega
def lowc (c : Nat) : Nat := if 65 ≤ c ∧ c ≤ 90 then c + 32 else c
def tabN (i : Nat) : Nat := (tabI i).toNat
theorem low_name : ∀ o : Fin 256, low (nameOf o.val) = ⟨#[lowc (tabN (o.val / 4)), lowc (tabN (o.val % 4 * 16)), 61, 61]⟩ := by decide +kernel
theorem lowc_in {c : Nat} (h : 32 ≤ c ∧ c ≤ 90 ∨ 97 ≤ c ∧ c ≤ 126) : 32 ≤ lowc c ∧ lowc c ≤ 126 := by
  unfold lowc
  split <;> omega
theorem tab_in : ∀ i : Fin 64, (32 ≤ tabN i.val ∧ tabN i.val ≤ 90) ∨ (97 ≤ tabN i.val ∧ tabN i.val ≤ 126) := by decide +kernel
theorem clean4 {a b c d : Nat} (ha : 32 ≤ a ∧ a ≤ 126) (hb : 32 ≤ b ∧ b ≤ 126) (hc : 32 ≤ c ∧ c ≤ 126) (hd : 32 ≤ d ∧ d ≤ 126) : Clean ⟨#[a, b, c, d]⟩ := by
  intro i hi
  have hi' : i < 4 := hi
  obtain rfl | rfl | rfl | rfl : i = 0 ∨ i = 1 ∨ i = 2 ∨ i = 3 := by omega
  · exact ha
  · exact hb
  · exact hc
  · exact hd
theorem nm_name {o : Nat} (h : o < 256) : Nm (nameOf o) := by
  have t1 := tab_in ⟨o / 4, by omega⟩
  have t2 := tab_in ⟨o % 4 * 16, by omega⟩
  dsimp only at t1 t2
  have l := low_name ⟨o, h⟩
  dsimp only at l
  refine ⟨?_, ?_, ?_, ?_⟩
  · exact clean4 (by show 32 ≤ tabN _ ∧ _; unfold tabN at *; omega) (by show 32 ≤ tabN _ ∧ _; unfold tabN at *; omega) (by decide) (by decide)
  · rw [l]; exact clean4 (lowc_in t1) (lowc_in t2) (by decide) (by decide)
  · show 4 ≤ 100; omega
  · rw [l]; show 4 ≤ 1000; omega
theorem lowc_same : ∀ i j : Fin 64, lowc (tabN i.val) = lowc (tabN j.val) ↔ (if i.val < 52 then i.val % 26 else i.val) = (if j.val < 52 then j.val % 26 else j.val) := by decide +kernel
theorem lowc_four : ∀ i j : Fin 4, lowc (tabN (i.val * 16)) = lowc (tabN (j.val * 16)) ↔ i.val = j.val := by decide +kernel
def canon (o : Nat) : Nat := if o < 208 then o % 104 else o
theorem canon_iff {o o' : Nat} : canon o = canon o' ↔ (if o / 4 < 52 then o / 4 % 26 else o / 4) = (if o' / 4 < 52 then o' / 4 % 26 else o' / 4) ∧ o % 4 = o' % 4 := by
  unfold canon
  by_cases h : o < 208
  · rw [if_pos h, if_pos (show o / 4 < 52 by omega)]
    by_cases h' : o' < 208
    · rw [if_pos h', if_pos (show o' / 4 < 52 by omega)]; omega
    · rw [if_neg h', if_neg (show ¬ o' / 4 < 52 by omega)]; omega
  · rw [if_neg h, if_neg (show ¬ o / 4 < 52 by omega)]
    by_cases h' : o' < 208
    · rw [if_pos h', if_pos (show o' / 4 < 52 by omega)]; omega
    · rw [if_neg h', if_neg (show ¬ o' / 4 < 52 by omega)]; omega
theorem low_iff {o o' : Nat} (h : o < 256) (h' : o' < 256) : low (nameOf o) = low (nameOf o') ↔ canon o = canon o' := by
  have l := low_name ⟨o, h⟩
  have l' := low_name ⟨o', h'⟩
  dsimp only at l l'
  rw [l, l']
  have a := lowc_same ⟨o / 4, by omega⟩ ⟨o' / 4, by omega⟩
  have b := lowc_four ⟨o % 4, by omega⟩ ⟨o' % 4, by omega⟩
  dsimp only at a b
  have e : ((⟨#[lowc (tabN (o / 4)), lowc (tabN (o % 4 * 16)), 61, 61]⟩ : Str) = ⟨#[lowc (tabN (o' / 4)), lowc (tabN (o' % 4 * 16)), 61, 61]⟩) ↔ (lowc (tabN (o / 4)) = lowc (tabN (o' / 4)) ∧ lowc (tabN (o % 4 * 16)) = lowc (tabN (o' % 4 * 16))) := by
    constructor
    · intro q; simp at q; exact q
    · rintro ⟨q1, q2⟩; rw [q1, q2]
  rw [e, a, b, canon_iff]
theorem canon_octet (x total : Int) : canon (octet x total).toNat = if x.fmod 5 = 4 then 208 + (total.fmod 48).toNat else ((37 * x.fmod 5 + total) % 104).toNat := by
  have c1 := Int.fmod_nonneg_of_pos total (b := 48) (by omega)
  have d1 := Int.fmod_nonneg_of_pos (x.fdiv 5) (b := 2) (by omega)
  have d2 := Int.fmod_lt_of_pos (x.fdiv 5) (b := 2) (by omega)
  have e1 : (37 * x.fmod 5 + total).fmod 104 = (37 * x.fmod 5 + total) % 104 := Int.fmod_eq_emod_of_nonneg _ (by omega)
  have z1 : 0 ≤ (37 * x.fmod 5 + total) % 104 ∧ (37 * x.fmod 5 + total) % 104 < 104 := ⟨Int.emod_nonneg _ (by omega), Int.emod_lt_of_pos _ (by omega)⟩
  unfold octet
  rw [e1]
  clear e1
  generalize x.fmod 5 = k at *
  generalize (x.fdiv 5).fmod 2 = u at *
  generalize total.fmod 48 = w at *
  generalize (37 * k + total) % 104 = Y at *
  clear total x
  unfold canon
  by_cases hk : k = 4
  · rw [if_pos hk, if_pos hk, if_neg (by omega)]; omega
  · rw [if_neg hk, if_neg hk, if_pos (by omega)]; omega
theorem kind_key {k l total : Int} (k0 : 0 ≤ k) (k1 : k < 4) (l0 : 0 ≤ l) (l1 : l < 4) (e : (37 * k + total) % 104 = (37 * l + total) % 104) : k = l := by omega
theorem octet_iff {x y total : Int} : canon (octet x total).toNat = canon (octet y total).toNat ↔ x.fmod 5 = y.fmod 5 := by
  have a := Int.fmod_nonneg_of_pos x (b := 5) (by omega)
  have b := Int.fmod_lt_of_pos x (b := 5) (by omega)
  have a' := Int.fmod_nonneg_of_pos y (b := 5) (by omega)
  have b' := Int.fmod_lt_of_pos y (b := 5) (by omega)
  rw [canon_octet, canon_octet]
  generalize x.fmod 5 = k at *
  generalize y.fmod 5 = l at *
  generalize (total.fmod 48).toNat = w at *
  have z1 : 0 ≤ (37 * k + total) % 104 ∧ (37 * k + total) % 104 < 104 := ⟨Int.emod_nonneg _ (by omega), Int.emod_lt_of_pos _ (by omega)⟩
  have z2 : 0 ≤ (37 * l + total) % 104 ∧ (37 * l + total) % 104 < 104 := ⟨Int.emod_nonneg _ (by omega), Int.emod_lt_of_pos _ (by omega)⟩
  constructor
  · intro q
    by_cases hk : k = 4
    · by_cases hl : l = 4
      · rw [hk, hl]
      · rw [if_pos hk, if_neg hl] at q
        generalize (37 * l + total) % 104 = Z at *
        omega
    · by_cases hl : l = 4
      · rw [if_neg hk, if_pos hl] at q
        generalize (37 * k + total) % 104 = Z at *
        omega
      · rw [if_neg hk, if_neg hl] at q
        refine kind_key (total := total) a (by omega) a' (by omega) ?_
        generalize (37 * k + total) % 104 = Y at *
        generalize (37 * l + total) % 104 = Z at *
        omega
  · intro e; rw [e]
theorem go_names (numbers : List Int) (total : Int) : Go ((numbers.map (·.fmod 5)).zip (numbers.map fun x => nameOf (octet x total).toNat)) := by
  rw [List.zip_map']
  intro a ha b hb
  obtain ⟨x, _, rfl⟩ := List.mem_map.mp ha
  obtain ⟨y, _, rfl⟩ := List.mem_map.mp hb
  dsimp only
  have hx := octet_in x total
  have hy := octet_in y total
  rw [low_iff (by omega) (by omega), octet_iff]
theorem can_name' : ∀ o : Fin 256, PyData.canLay0 (.str (nameOf o.val)) = true := by decide +kernel
theorem can_name {o : Nat} (h : o < 256) : PyData.canLay0 (.str (nameOf o)) = true := can_name' ⟨o, h⟩
section
open PyProof.V PySem.Spec PySem.SeqAt
theorem readsAll_strs {h : Heap} : ∀ {vs : List Value} {ss : List Str}, Strs vs ss → ReadsAll h vs (ss.map PyData.str) []
  | [], [], _ => .nil
  | [], s :: r, H => by have := H.1; simp at this
  | v :: vs, [], H => by have := H.1; simp at this
  | v :: vs, s :: ss, H => by
    obtain ⟨t, e⟩ := H.2 0 s rfl
    have e' : v = .str s t := by simpa using e
    subst e'
    have H' : Strs vs ss := ⟨by have := H.1; simpa using this, fun i x hx => by
      obtain ⟨t', e⟩ := H.2 (i + 1) x (by simpa using hx)
      exact ⟨t', by simpa using e⟩⟩
    have := ReadsAll.cons (Reads.str (h := h) s t) (readsAll_strs (h := h) H')
    simpa using this
theorem reads_strs {h : Heap} {a : Addr} {vs : List Value} {ss : List Str} (hl : At h a (isL vs.toArray)) (hi : Strs vs ss) : Reads h (.ref a) (.list (ss.map PyData.str)) [a] := by
  obtain ⟨o, ho, hc, n, hd⟩ := hl
  exact Reads.list ho hc hd (by simpa using readsAll_strs hi)
theorem canLay_strs : ∀ ss : List Str, (∀ x ∈ ss, PyData.canLay0 (.str x) = true) → PyData.canLayAll0 (ss.map PyData.str) = true
  | [], _ => by simp [PyData.canLayAll0]
  | x :: r, h => by
    have := h x (.head _)
    simp only [List.map_cons, PyData.canLayAll0, this, canLay_strs r fun y m => h y (.tail _ m), Bool.and_self]
theorem depth_strs : ∀ ss : List Str, PyData.depthAll (ss.map PyData.str) ≤ 1
  | [] => by simp [PyData.depthAll]
  | n :: r => by
    have := depth_strs r
    simp only [List.map_cons, PyData.depthAll, PyData.depth]
    omega
theorem shaped_strs (ss : List Str) (h : ∀ x ∈ ss, PyData.canLay0 (.str x) = true) : shaped (.list (ss.map PyData.str)) = true := by
  have h1 := depth_strs ss
  have h2 : PyData.depth (.list (ss.map PyData.str)) ≤ 64 := by simp only [PyData.depth]; omega
  show (PyData.canLay0 (.list (ss.map PyData.str)) && decide (PyData.depth (.list (ss.map PyData.str)) ≤ 64)) = true
  rw [Bool.and_eq_true]
  exact ⟨by simp only [PyData.canLay0]; exact canLay_strs ss h, decide_eq_true h2⟩
theorem noMix_strs : ∀ ss : List Str, noMixAll (ss.map PyData.str) (ss.map PyData.str) = true
  | [] => by simp [noMixAll]
  | _ :: r => by simp [noMixAll, noMix, noMix_strs r]
theorem same_strs : ∀ ss : List Str, PySem.Spec.sameAll (ss.map PyData.str) (ss.map PyData.str) = true
  | [] => by simp [PySem.Spec.sameAll]
  | n :: r => by simp [PySem.Spec.sameAll, PySem.Spec.same, same_strs r]
section
variable {w : World} {A : Around} {E : Value → Shared → Prop} {s₀ s : Shared} {g : Heap} {L : Addr} {ns : List Str} {vs : List (Option Value)} {nw nw' : List (Addr × Pd)} {env : Env}
theorem r_nestrs {a b : Addr} {xs ys : List Value} {ss : List Str} {Q : Value → Shared → Prop} (ha : At s.heap a (isL xs.toArray)) (hx : Strs xs ss) (hb : At s.heap b (isL ys.toArray)) (hy : Strs ys ss) (hc : ∀ x ∈ ss, PyData.canLay0 (.str x) = true)
    (hu : A.units + 64 < cLine) (h : Q (.bool false) s) : wpAny (model PR w) A (compareOp .NotEq (.ref a) (.ref b)) Q E s :=
  ne_dataH_same (reads_strs ha hx) (reads_strs hb hy) (shaped_strs ss hc) (shaped_strs ss hc) hu (by simp only [noMix]; exact noMix_strs ss) (by simp only [PySem.Spec.same]; rw [same_strs]; exact h)
theorem r_sum {l : Addr} {iv : List Value} {ks : List Int} {Q : Value → Shared → Prop} (hh : A.handled = none) (S : ST s₀ g L ns vs nw s) (hl : At s.heap l (isL iv.toArray)) (hi : IntsAre iv ks)
    (h : ∀ t s', ST s₀ g L ns vs nw s' → Q (.int ks.sum t) s') : wpAny (model PR w) A (call (.builtin "sum") [.ref l]) Q E s := by
  obtain ⟨xs, hx⟩ := hi.allInts.items
  have hn : numsOf iv.toArray.toList = ks := by rw [show iv.toArray.toList = iv from rfl, hi.numsOf]
  rw [hx] at hl hn
  rw [nums_intItems] at hn
  refine sum_intListG hh hl fun h' tk t' hk => ?_
  rw [preSum_eq, List.take_of_length_le (by simp), hn]
  exact h t' _ (S.grow (s' := { s with heap := h', toks := tk }) hk ⟨rfl, rfl, rfl⟩)
theorem pick_mid (items : Array Value) : slicePick items (some 2) (some 18) none = ((items.toList.drop 2).take 16).toArray := by
  rw [slicePick_plain]
  simp only [Option.elim]
  rw [show (2 : Int) = ((2 : Nat) : Int) from rfl, show (18 : Int) = ((18 : Nat) : Int) from rfl, clipAt_nat, clipAt_nat]
  congr 1
  rcases Nat.le_total 2 items.size with h2 | h2
  · rw [Nat.min_eq_left h2]
    rcases Nat.le_total 18 items.size with h | h
    · rw [Nat.min_eq_left h]
    · rw [Nat.min_eq_right h, List.take_of_length_le (by simp), List.take_of_length_le (by simp; omega)]
  · rw [List.drop_of_length_le (by simp; omega), List.drop_of_length_le (by simpa using h2)]; simp
end
end
local macro_rules | `(tactic| walk_at "m.go1") => `(tactic| first | walk1 | (dsimp only; walk1))
section
variable {w : World} {A : Around} {E : Value → Shared → Prop} {s₀ s : Shared} {g : Heap} {L : Addr} {ns : List Str} {vs : List (Option Value)} {nw nw' : List (Addr × Pd)} {env : Env}
abbrev numsOfS (xs : List Int) : List Int := [0, 1, 2, 3, 0] ++ (xs.drop 2).take 16
abbrev ksOf (nums : List Int) : List Int := nums.map (·.fmod 5)
abbrev nnOf (nums : List Int) (total : Int) : List Str := nums.map fun x => nameOf (octet x total).toNat
theorem lk_sub {ks : List Int} {nn : List Str} (e : ks.length = nn.length) : ∀ x ∈ (lkRun ks nn nn.length).2, x ∈ nn := by
  intro x hx
  rw [lk_all ks nn e] at hx
  obtain ⟨a, ma, rfl⟩ := List.mem_map.mp hx
  have := D_sub _ _ ma
  rw [Pre, List.mem_reverse] at this
  have := List.mem_of_mem_take this
  obtain ⟨a1, a2⟩ := a
  exact (List.of_mem_zip this).2
abbrev lns : List Str := [Str.ofString "script", Str.ofString "heads", Str.ofString "room", Str.ofString "small", Str.ofString "numbers", Str.ofString "kinds", Str.ofString "names", Str.ofString "missed", Str.ofString "left", Str.ofString "least", Str.ofString "held"]
theorem law_spec {sl : Addr} {b : Heap} {xs : List Int} {sv : List Value} {Q : Value → Shared → Prop} (W : Wld w b) (hb : ∀ a o, b.get? a = some o → s.heap.get? a = some o) (ok : Ok A 8)
    (hl : At s.heap sl (isL sv.toArray)) (hs : IntsAre sv xs) (hz : xs.length ≤ 63)
    (h : ∀ s', Same s s' → Keeps [] s.heap s'.heap → Q (.bool true) s') :
    wpAny (model PR w) A (call (.ref 276) [.ref sl]) Q E s := by
  refine wpAny_call ?_
  refine enterC [(Str.ofString "script", .ref sl)] [Str.ofString "script", Str.ofString "heads", Str.ofString "room", Str.ofString "small", Str.ofString "numbers", Str.ofString "kinds", Str.ofString "names", Str.ofString "missed", Str.ofString "left", Str.ofString "least", Str.ofString "held"]
    [some (.ref sl), none, none, none, none, none, none, none, none, none, none] (fun L => [(Str.ofString "total", L + 1)]) (fun L => [(L + 1, isC none)]) []
    W hb (by simp) (by simp) rfl rfl ok.room rfl ?_ (by decide +kernel) ?_ ?_ ?_ ?_ ?_
  · exact kindsX rfl
  · intro L
    walk_at "m.hvs"
  · exact fun L => rfl
  · exact fun L => rfl
  · intro L; show [Str.ofString "total"].Nodup; decide +kernel
  intro g L s1 hbg hsg hgs Wg S
  simp only [List.cons_append, List.nil_append] at S
  have hlg : At g sl (isL sv.toArray) := (hl.into hsg (by simp))
  have hlen := hs.length
  iterate 12 walk_at "m.go1"
  rename_i tA _ _ tB _ _ l0 _ S1
  refine r_addlists (xs := sv) S1 (S1.old hlg) (S1.new (.head _)).weak (by simp only [List.length_cons, List.length_nil]; omega) ?_
  intro al s2 S2
  iterate 6 walk_at "m.go1"
  rename_i S3
  refine r_getslice S3 (S3.new (a := al) (by walk_at "m.mem")).weak (S3.new (.head _)) .none (.int _ _) .none (by simp) (by rw [List.size_toArray, List.length_append]; simp only [List.length_cons, List.length_nil]; omega) ?_ (by with_unfolding_all rfl)
  intro hd s4 S4
  rw [show (2 : Int) = ((2 : Nat) : Int) from rfl, slicePick_upto'] at S4
  have hhd : IntsAre ((sv ++ [Value.int 2 tA, Value.int 1 tB]).take 2) ((xs ++ [2, 1]).take 2) := (hs.append ((intsOne 2 tA).append (intsOne 1 tB))).take 2
  have S5 := S4.weak (nw' := [(L + 1, isC none), (hd, isLx ((sv ++ [Value.int 2 tA, Value.int 1 tB]).take 2).toArray)]) (by intro p hp; simp at hp ⊢; grind) (by have := S4.nd; simp at this ⊢; grind)
  clear S4 S3 S2 S1
  obtain ⟨h0, h1, hh⟩ : ∃ h0 h1, (xs ++ [2, 1]).take 2 = [h0, h1] := by
    match xs with
    | [] => exact ⟨2, 1, rfl⟩
    | [a] => exact ⟨a, 2, rfl⟩
    | a :: b :: r => exact ⟨a, b, rfl⟩
  rw [hh] at hhd
  generalize (sv ++ [Value.int 2 tA, Value.int 1 tB]).take 2 = hv at *
  iterate 8 walk_at "m.go1"
  rename_i S6
  refine r_inti (v := h0) (S6.new (a := hd) (by walk_at "m.mem")).weak hhd (by omega) (by omega) rfl ?_
  intro t7
  clear S5
  have m0 := Int.fmod_nonneg_of_pos h0 (b := 4) (by omega)
  have m1 := Int.fmod_lt_of_pos h0 (b := 4) (by omega)
  iterate 12 walk_at "m.go1"
  rename_i S8
  clear S6
  refine r_inti (v := h1) (S8.new (a := hd) (by walk_at "m.mem")).weak hhd (by omega) (by omega) rfl ?_
  intro t9
  obtain ⟨r, hr⟩ : ∃ r : Nat, h0.fmod 4 + 1 = r := ⟨(h0.fmod 4 + 1).toNat, by omega⟩
  have hr1 : 1 ≤ r ∧ r ≤ 4 := by omega
  rw [hr] at S8
  have n0 := Int.fmod_nonneg_of_pos h1 (b := (r : Int)) (by omega)
  have n1 := Int.fmod_lt_of_pos h1 (b := (r : Int)) (by omega)
  obtain ⟨q, hq⟩ : ∃ q : Nat, h1.fmod (r : Int) + 1 = q := ⟨(h1.fmod (r : Int) + 1).toNat, by omega⟩
  have hq1 : 1 ≤ q ∧ q ≤ r := by omega
  clear m0 m1 n0 n1
  iterate 6 walk_at "m.go1"
  rename_i SA
  rw [hq] at SA
  clear S8
  iterate 7 walk_at "m.go1"
  refine r_sum ok.hh SA (SA.old hlg) hs ?_
  intro tT s10 SB
  clear SA
  generalize xs.sum = total
  have S11 := SB.weak (nw' := [(L + 1, isC none)]) (by intro p hp; simp at hp ⊢; grind) (by have := SB.nd; simp at this ⊢)
  clear SB
  iterate 17 walk_at "m.go1"
  rename_i ta _ _ tb _ _ tc _ _ td _ _ te _ _ l5 _ S12
  clear S11
  iterate 9 walk_at "m.go1"
  rename_i S13
  refine r_getslice S13 (S13.old hlg) (S13.new (.head _)) (.int _ _) (.int _ _) .none (by simp) (by rw [List.size_toArray]; omega) ?_ (by with_unfolding_all rfl)
  intro ml s14 S14
  rw [pick_mid] at S14
  have hmid : IntsAre ((sv.drop 2).take 16) ((xs.drop 2).take 16) := (hs.drop 2).take 16
  have hfive : IntsAre [.int 0 ta, .int 1 tb, .int 2 tc, .int 3 td, .int 0 te] [0, 1, 2, 3, 0] := by repeat constructor
  have hml := hmid.length
  have hmx : ((xs.drop 2).take 16).length ≤ 16 := by rw [List.length_take]; omega
  refine r_addlists (xs := [.int 0 ta, .int 1 tb, .int 2 tc, .int 3 td, .int 0 te]) (ys := (sv.drop 2).take 16) S14 (S14.new (a := l5) (by walk_at "m.mem")).weak (S14.new (a := ml) (.head _)).weak (by simp only [List.length_cons, List.length_nil]; omega) ?_
  intro nl s15 S15
  have hnum : IntsAre ([.int 0 ta, .int 1 tb, .int 2 tc, .int 3 td, .int 0 te] ++ (sv.drop 2).take 16) (numsOfS xs) := hfive.append hmid
  have hnl : (numsOfS xs).length ≤ 21 := by rw [List.length_append]; simp only [List.length_cons, List.length_nil]; omega
  have S16 := S15.weak (nw' := [(L + 1, isC (some (.int total tT))), (nl, isLx ([Value.int 0 ta, Value.int 1 tb, Value.int 2 tc, Value.int 3 td, Value.int 0 te] ++ (sv.drop 2).take 16).toArray)]) (by intro p hp; simp at hp ⊢; grind) (by have := S15.nd; simp at this ⊢; grind)
  generalize [Value.int 0 ta, Value.int 1 tb, Value.int 2 tc, Value.int 3 td, Value.int 0 te] ++ (sv.drop 2).take 16 = nv at hnum S16
  have hlead : ∃ rest, numsOfS xs = [0, 1, 2, 3, 0] ++ rest := ⟨_, rfl⟩
  clear S12 S13 S14 S15 hmid hfive hml hmx
  generalize numsOfS xs = nums at *
  have hnlen := hnum.length
  iterate 2 walk_at "m.go1"
  refine r_assigncomp (cl := []) (by with_unfolding_all rfl) (by with_unfolding_all rfl) (by rfl) (by decide +kernel) ?_
  iterate 1 walk_at "m.go1"
  rename_i S17
  clear S16
  have hnl8 := S17.new (a := nl) (by walk_at "m.mem")
  refine compAt (starts_list ok.hh hnl8.weak) (fun i ys => IntsAre ys (ksOf (nums.take i))) [Str.ofString "x"] [none] S17 (fun s' hk' => let ⟨o, e, p⟩ := hnl8.weak; ⟨o, hk' _ _ e, p⟩) ?_ ?_ .nil (by rw [List.size_toArray]; omega) (by decide +kernel) (by intro x v q; cases q with | tail q => cases q) (by decide +kernel) rfl
  · clear S17
    rintro C Ic acc i2 v ys P1 s9 hi2 hv K9 S9
    have hi2' : i2 < nums.length := by rw [← hnlen]; simpa using hi2
    obtain ⟨x, hx⟩ : ∃ x, nums[i2]? = some x := ⟨_, List.getElem?_eq_getElem hi2'⟩
    obtain ⟨tx, ex⟩ := hnum.get i2 x hx
    rw [List.getElem?_toArray, ex] at hv
    cases hv
    walk_at "m.go"
    refine ⟨⟨_, by assumption⟩, ?_⟩
    rw [List.take_add_one, hx, Option.toList_some, ksOf, List.map_append]
    exact K9.append (intsOne _ _)
  · intro C kl kv s18 K18 S18
    rw [List.size_toArray, hnlen, List.take_length] at K18
    refine comp_done_use (s₀ := s) (g := g) (L := L) (ns := lns) (ys := kv.toArray) ?_
    iterate 2 walk_at "m.go1"
    refine ⟨_, _, by assumption, ?_⟩
    intro s19 S19
    clear S18 S17 hnl8
    iterate 3 walk_at "m.go1"
    have hnl8 := S19.new (a := nl) (by walk_at "m.mem")
    have hcT := S19.new (a := L + 1) (P := isC (some (.int total tT))) (by walk_at "m.mem")
    refine compAt (starts_list ok.hh hnl8.weak) (fun i ys => Strs ys (nnOf (nums.take i) total)) [Str.ofString "x"] [none] S19 (fun s' hk' => let ⟨o, e, p⟩ := hnl8.weak; ⟨o, hk' _ _ e, p⟩) ?_ ?_ .nil (by rw [List.size_toArray]; omega) (by decide +kernel) (by intro x v q; cases q with | tail q => cases q) (by decide +kernel) rfl
    · have Ws := Wg.keeps S19.keep
      clear S19
      have hcc := And.intro hcT True.intro
      clear hcT
      rintro C Ic acc i2 v ys P1 s9 hi2 hv K9 S9
      have hi2' : i2 < nums.length := by rw [← hnlen]; simpa using hi2
      obtain ⟨x, hx⟩ : ∃ x, nums[i2]? = some x := ⟨_, List.getElem?_eq_getElem hi2'⟩
      obtain ⟨tx, ex⟩ := hnum.get i2 x hx
      rw [List.getElem?_toArray, ex] at hv
      cases hv
      iterate 10 walk_at "m.go1"
      refine r_cell (c := L + 1) (ST.old (by assumption) hcc.1) (by kernel_rfl!) ?_ (by kernel_rfl!) (by walk_at "m.kind") (by decide +kernel) (by decide +kernel)
      iterate 2 walk_at "m.go1"
      rename_i SX
      refine name_spec Ws SX.keep (ok.deeper.mono (by decide)) ?_
      intro sY uY eY kY
      have SY := SX.call0 eY kY
      clear SX
      walk_at "m.go"
      refine ⟨⟨_, SY⟩, ?_⟩
      rw [List.take_add_one, hx, Option.toList_some, nnOf, List.map_append]
      exact K9.snoc
    · intro C nl2 nv2 s20 K20 S20
      rw [List.size_toArray, hnlen, List.take_length] at K20
      refine comp_done_use (s₀ := s) (g := g) (L := L) (ns := lns) (ys := nv2.toArray) ?_
      iterate 2 walk_at "m.go1"
      refine ⟨_, _, by assumption, ?_⟩
      intro s21 S21
      clear S20 S19 hnl8 hcT
      have hk5 : ∀ k ∈ ksOf nums, 0 ≤ k ∧ k < 5 := fun k mk => by
        obtain ⟨x, _, rfl⟩ := List.mem_map.mp mk
        exact ⟨Int.fmod_nonneg_of_pos x (by omega), Int.fmod_lt_of_pos x (by omega)⟩
      have hgo : Go ((ksOf nums).zip (nnOf nums total)) := go_names nums total
      have hnm : ∀ x ∈ nnOf nums total, Nm x := fun x mx => by
        obtain ⟨y, _, rfl⟩ := List.mem_map.mp mx
        have := octet_in y total
        exact nm_name (by omega)
      have hkl : (ksOf nums).length = nums.length := List.length_map _
      have hnl2 : (nnOf nums total).length = nums.length := List.length_map _
      have hkn : (ksOf nums).length = (nnOf nums total).length := by rw [hkl, hnl2]
      have hcan : ∀ x ∈ nnOf nums total, PyData.canLay0 (.str x) = true := fun x mx => by
        obtain ⟨y, _, rfl⟩ := List.mem_map.mp mx
        have := octet_in y total
        exact can_name (by omega)
      generalize ksOf nums = ks at *
      generalize nnOf nums total = nn at *
      have S22 := S21.weak (nw' := [(nl2, isLx nv2.toArray), (kl, isLx kv.toArray)]) (by intro p hp; simp at hp ⊢; grind) (by have := S21.nd; simp at this ⊢; grind)
      clear S21
      have hnlist := S22.new (a := nl2) (by walk_at "m.mem")
      have hklist := S22.new (a := kl) (by walk_at "m.mem")
      iterate 11 walk_at "m.go1"
      refine longest_spec (ss := nn) Wg S22.keep (ok.deeper.mono (by decide)) hnlist.weak K20 hnm (by omega) (by omega) ?_
      intro s23 tp lf lv u e23 k23 htp hlf hlv hfr
      have S23 := S22.fresh hlf hfr (S22.call0 e23 k23)
      clear S22
      have hLRU := lru_law ks nn hkn hgo r (by omega)
      rw [hLRU] at htp hlv
      dsimp only at htp hlv
      refine r_unpack2 ok.hh S23 htp rfl rfl ?_
      intro s24 S24
      clear S23 htp
      iterate 21 walk_at "m.go1"
      rename_i S25
      clear S24
      refine looking_spec Wg S25.keep (ok.deeper.mono (by decide)) (S25.new (a := kl) (by walk_at "m.mem")).weak K18 (by omega) ?_
      intro s26 u26 e26 k26
      have S26 := S25.call0 e26 k26
      clear S25
      iterate 3 walk_at "m.go1"
      · rename_i hc
        simp at hc
      rename_i hc
      clear hc
      iterate 14 walk_at "m.go1"
      refine last_spec (room := r) Wg S26.keep (ok.deeper.mono (by decide)) (S26.new (a := nl2) (by walk_at "m.mem")).weak K20 (S26.new (a := kl) (by walk_at "m.mem")).weak K18 (by omega) hkn ?_
      intro s27 rl rv e27 k27 hrl hrv _
      have S27 := S26.call0 e27 k27
      clear S26
      refine r_nestrs (S27.new (a := lf) (by walk_at "m.mem")) hlv hrl hrv (fun x hx => hcan x (lk_sub hkn x (List.mem_of_mem_take (List.mem_reverse.mp hx)))) ?_ ?_
      · have h1 := ok.un
        have h2 := cLine_is
        simp only [units_deeper]
        omega
      iterate 18 walk_at "m.go1"
      clear hrl hrv
      refine latest_spec (room := q) Wg S27.keep (ok.deeper.mono (by decide)) (S27.new (a := nl2) (by walk_at "m.mem")).weak K20 hnm (S27.new (a := kl) (by walk_at "m.mem")).weak K18 (by omega) hkn (by omega) ?_
      intro s28 tp2 m qq hh2 u1 u2 e28 k28 hB htp2
      have S28 := S27.call0 e28 k28
      clear S27
      obtain ⟨qa, js, hI, hKB⟩ := bel_kb (by omega) hkn hgo hB (Nat.le_refl _)
      rw [← hkn] at hKB
      have hql : qq.length = (kindsOf qa).length := by rw [hI.q, List.length_map, List.length_map]
      obtain ⟨hne, hfew⟩ := bel_fewest (by omega) hk5 hKB
      obtain ⟨hST, hHeld⟩ := st_law (nn := nn) hkn (r := r) (h := q) (by omega) (by omega) (by omega) hKB
      rw [← hql] at hHeld
      clear hI hB hKB hql
      refine r_unpack2 ok.hh S28 htp2 rfl rfl ?_
      intro s29 S29
      clear S28 htp2
      iterate 21 walk_at "m.go1"
      rename_i S30
      clear S29
      refine fewest_spec Wg S30.keep (ok.deeper.mono (by decide)) (S30.new (a := kl) (by walk_at "m.mem")).weak K18 (by omega) hk5 hne ?_
      intro s31 M uM e31 k31 hM1 hM2
      have S31 := S30.call0 e31 k31
      clear S30
      have hMm := hfew M hM1 hM2
      subst hMm
      clear hM1 hM2 hfew hne
      iterate 3 walk_at "m.go1"
      · rename_i hc
        simp at hc
      rename_i hc
      clear hc
      iterate 18 walk_at "m.go1"
      refine last_spec (room := q) Wg S31.keep (ok.deeper.mono (by decide)) (S31.new (a := nl2) (by walk_at "m.mem")).weak K20 (S31.new (a := kl) (by walk_at "m.mem")).weak K18 (by omega) hkn ?_
      intro s32 rl rv e32 k32 hrl hrv _
      have S32 := S31.call0 e32 k32
      clear S31
      have hrs : rv.toArray.size = qq.length := by rw [List.size_toArray, hrv.1, hHeld]
      have hqs : qq.length ≤ 4 := by
        rw [hHeld, List.length_reverse, List.length_take]; omega
      iterate 1 walk_at "m.go1"
      refine r_len S32 hrl (by omega) ?_
      intro t33 s33 S33
      rw [hrs]
      clear S32 hrl
      iterate 3 walk_at "m.go1"
      · rename_i hc
        simp at hc
      rename_i hc
      clear hc
      iterate 21 walk_at "m.go1"
      rename_i S34
      rw [decide_eq_true hST]
      exact h _ S34.same (S34.keeps hsg)
end
theorem main : PySem.Challenge.rw_om0071_01.Holds := Mine.hd (by
  intro w s₀ s₁ mg mb G Y fa o pm cd doc dV kV ho hd hcd hD hmg hg args vals as hpre hlay hrd hwl hlo
  have KX := kIn_of Y
  have hmg' : mg (Str.ofString "law") = some (.ref fa) := hmg
  clear hmg hcd hD hd
  refine Ground.open G ?_
  intro T B D TE TW
  try (refine guard_noD D (by decide +kernel) ?_; clear D)
  clear B TE TW
  have hfa : fa = 276 := by
    have h1 : nsIn (KK w) mainGlobals (Str.ofString "law") = some (some (.ref 276)) := by kernel_rfl
    have h2 := mg_of KX T.g h1
    rw [hmg'] at h2
    cases h2; rfl
  subst hfa
  have Wd : Wld w s₁.heap := ⟨KX, T.nolimit, ⟨_, T.g⟩, ⟨_, T.b, T.builtins⟩⟩
  wrow_args hpre hlay hrd hwl hlo
  rename_i xs _ _ _ _ _ _ _ sl sv _ hL _ _ _ hI _ hlen _
  show wpAny (model PR w) callerA (call (.ref 276) [.ref sl]) _ _ s₁
  refine law_spec Wd (fun _ _ e => e) ⟨rfl, by rw [depth_caller]; omega, by rw [units_caller]; omega⟩ hL hI (by omega) ?_
  intro s' hsame hkeep
  refine GoodW.toG ?_
  refine ⟨.inl ⟨.bool true, .bool true, [], rfl, ?_, .bool true, ?_, fun _ => ⟨.nil, by simp⟩⟩, fun b o e => hkeep b o e (by simp), hsame.2.2, hsame.1.trans hg⟩
  · intro cls; rfl
  · first | kernel_rfl | (with_unfolding_all rfl) | (show (WShape.has _ (.bool true) .bool && WTm.holds (.eq .res (.lit (.bool true))) _ _) = true; simp [WShape.has, WTm.holds, WTm.eval]))
end Mine
theorem PySem.Challenge.cw_om0071_01_holds : PySem.Challenge.rw_om0071_01.Holds :=
  Mine.main
