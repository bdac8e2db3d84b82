import PyProof.Rows.All
import Wide.All
import OpenK.AllK
import Wide.FinOn
import Lean
import PySem.Challenge.RW_nq0019_01
open PySem PySem.W PySem.Calls PyProof.Rows
set_option Elab.async false
set_option maxRecDepth 100000
set_option maxHeartbeats 8000000
set_option linter.unusedVariables false
namespace Mine
open_top hd for PySem.Challenge.rw_nq0019_01

/-- an object that is a namespace with the map m -/
def NsO (o : Obj) (m : Str → Option Value) : Prop := ∃ es ep, o.data = .dict es ep ∧ StrKeys es ∧ ∀ name, nsFind es name = m name
theorem NsO.ns {h : Heap} {C : Addr} {o : Obj} {m : Str → Option Value} (x : NsO o m) (e : h.get? C = some o) : h.Ns C m := let ⟨es, ep, hd, r⟩ := x; ⟨o, es, ep, e, hd, r⟩
theorem ns_o {h : Heap} {C : Addr} {m : Str → Option Value} (x : h.Ns C m) : ∃ o, h.get? C = some o ∧ NsO o m := let ⟨o, es, ep, e, hd, r⟩ := x; ⟨o, e, es, ep, hd, r⟩
theorem NsO.slots {o : Obj} {m : Str → Option Value} (x : NsO o m) (sl : Array (Option Value)) : NsO { o with slots := sl } m := x

/-- s has grown out of s₁: nw is what was made since (and is known), kn is known of s₁ -/
structure Pur (base : Heap) (s₁ s : Shared) (nw kn : List (Addr × Obj)) : Prop where
  same : ∃ h tk, s = { s₁ with heap := h, toks := tk }
  grow : s₁.heap.StaysIn s.heap
  st : base.StaysIn s₁.heap
  known : ∀ p ∈ kn, s₁.heap.get? p.1 = some p.2
  made : ∀ p ∈ nw, s.heap.get? p.1 = some p.2 ∧ s₁.heap.get? p.1 = none
  nd : (nw.map (·.1)).Nodup

section
variable {base : Heap} {s₁ s s' : Shared} {nw kn : List (Addr × Obj)} {a : Addr} {o : Obj}

theorem Pur.start (st : base.StaysIn s.heap) (h : ∀ p ∈ kn, s.heap.get? p.1 = some p.2) : Pur base s s [] kn :=
  ⟨⟨_, _, rfl⟩, fun _ _ e => e, st, h, fun _ h => (nomatch h), List.nodup_nil⟩
theorem Pur.get (G : Pur base s₁ s nw kn) (h : (a, o) ∈ nw ∨ (a, o) ∈ kn) : s.heap.get? a = some o :=
  h.elim (fun h => (G.made _ h).1) fun h => G.grow _ _ (G.known _ h)
theorem Pur.keeps (G : Pur base s₁ s nw kn) : Keeps s₁ s := by
  obtain ⟨h, tk, rfl⟩ := G.same
  exact ⟨h, tk, rfl, G.grow⟩
theorem Pur.based (G : Pur base s₁ s nw kn) : base.StaysIn s.heap := fun b o e => G.grow _ _ (G.st _ _ e)
theorem Pur.mono (G : Pur base s₁ s nw kn) (k : Keeps s s') : Pur base s₁ s' nw kn := by
  obtain ⟨h, tk, rfl⟩ := G.same
  obtain ⟨h', tk', rfl, hk⟩ := k
  exact ⟨⟨h', tk', rfl⟩, fun b o e => hk b o (G.grow b o e), G.st, G.known, fun p hp => ⟨hk _ _ (G.made p hp).1, (G.made p hp).2⟩, G.nd⟩
theorem Pur.tok (G : Pur base s₁ s nw kn) (k : Nat) : Pur base s₁ { s with toks := k } nw kn := G.mono ⟨_, _, rfl, fun _ _ e => e⟩
theorem Pur.heap (G : Pur base s₁ s nw kn) {h' : Heap} {k : Nat} (hk : ∀ b o, s.heap.get? b = some o → h'.get? b = some o) : Pur base s₁ { s with heap := h', toks := k } nw kn := G.mono ⟨_, _, rfl, hk⟩
theorem Pur.new (G : Pur base s₁ s nw kn) (k : Keeps s s') (hn : s.heap.get? a = none) (ha : s'.heap.get? a = some o) : Pur base s₁ s' ((a, o) :: nw) kn := by
  have G' := G.mono k
  refine ⟨G'.same, G'.grow, G'.st, G'.known, fun p hp => ?_, ?_⟩
  · rcases List.mem_cons.mp hp with rfl | hp
    · refine ⟨ha, ?_⟩
      cases e : s₁.heap.get? a with
      | none => rfl
      | some o' => have := G.grow _ _ e; rw [hn] at this; cases this
    · exact G'.made p hp
  · refine List.nodup_cons.mpr ⟨fun hm => ?_, G.nd⟩
    obtain ⟨p, hp, e⟩ := List.mem_map.mp hm
    have := (G.made p hp).1
    rw [e, hn] at this; cases this
theorem Pur.push (G : Pur base s₁ s nw kn) (hf : o.isFreed = false) : Pur base s₁ { s with heap := s.heap.push o } ((s.heap.objs.size, o) :: nw) kn :=
  G.new ⟨_, _, rfl, fun b x e => Heap.get?_push_of_some _ e⟩ (Heap.get?_none_of_le (Nat.le_refl _)) (Heap.get?_push_size _ hf)
theorem Pur.sub (G : Pur base s₁ s nw kn) {nw' kn' : List (Addr × Obj)} (h1 : nw'.Sublist nw) (h2 : ∀ p ∈ kn', p ∈ kn) : Pur base s₁ s nw' kn' :=
  ⟨G.same, G.grow, G.st, fun p hp => G.known p (h2 p hp), fun p hp => G.made p (h1.subset hp), G.nd.sublist (h1.map _)⟩
end

/-- replaced in the list -/
inductive Rep (d : Addr) (o o' : Obj) : List (Addr × Obj) → List (Addr × Obj) → Prop
  | head {r} : Rep d o o' ((d, o) :: r) ((d, o') :: r)
  | tail {p r r'} : Rep d o o' r r' → Rep d o o' (p :: r) (p :: r')
theorem Rep.mem {d : Addr} {o o' : Obj} : ∀ {l l' : List (Addr × Obj)}, Rep d o o' l l' → (d, o) ∈ l
  | _, _, .head => List.Mem.head _
  | _, _, .tail r => List.Mem.tail _ r.mem
theorem Rep.keys {d : Addr} {o o' : Obj} : ∀ {l l' : List (Addr × Obj)}, Rep d o o' l l' → l'.map (·.1) = l.map (·.1)
  | _, _, .head => rfl
  | _, _, .tail r => by rw [List.map_cons, List.map_cons, r.keys]
theorem Rep.of_mem {d : Addr} {o o' : Obj} : ∀ {l l' : List (Addr × Obj)}, Rep d o o' l l' → (l.map (·.1)).Nodup → ∀ p ∈ l', p = (d, o') ∨ (p ∈ l ∧ p.1 ≠ d)
  | _, _, .head (r := r), hn, p, hp => by
    rw [List.map_cons, List.nodup_cons] at hn
    rcases List.mem_cons.mp hp with rfl | hp
    · exact .inl rfl
    · exact .inr ⟨List.mem_cons_of_mem _ hp, fun e => hn.1 (List.mem_map.mpr ⟨p, hp, e⟩)⟩
  | _, _, .tail (p := q) (r := r₀) r, hn, p, hp => by
    rw [List.map_cons, List.nodup_cons] at hn
    rcases List.mem_cons.mp hp with rfl | hp
    · exact .inr ⟨List.Mem.head _, fun e => hn.1 (by rw [e]; exact List.mem_map.mpr ⟨(d, o), r.mem, rfl⟩)⟩
    · rcases r.of_mem hn.2 p hp with e | e
      · exact .inl e
      · exact .inr ⟨List.mem_cons_of_mem _ e.1, e.2⟩

/-- a call's own object that was made since is changed -/
theorem Pur.change {base : Heap} {s₁ s s' : Shared} {nw nw' kn : List (Addr × Obj)} {a : Addr} {o o' : Obj} (G : Pur base s₁ s nw kn) (R : Rep a o o' nw nw')
    (hs : ∃ h tk, s' = { s with heap := h, toks := tk }) (hk : ∀ b x, b ≠ a → s.heap.get? b = some x → s'.heap.get? b = some x) (ha : s'.heap.get? a = some o') : Pur base s₁ s' nw' kn := by
  have hm := (G.made _ R.mem)
  obtain ⟨h, tk, rfl⟩ := G.same
  obtain ⟨h', tk', rfl⟩ := hs
  refine ⟨⟨h', tk', rfl⟩, fun b x e => hk b x (fun q => ?_) (G.grow b x e), G.st, G.known, fun p hp => ?_, by rw [R.keys]; exact G.nd⟩
  · rw [q, hm.2] at e; cases e
  · rcases R.of_mem G.nd p hp with rfl | ⟨hp, hne⟩
    · exact ⟨ha, hm.2⟩
    · exact ⟨hk _ _ hne (G.made p hp).1, (G.made p hp).2⟩


theorem Pur.trans {base : Heap} {s₀ s₁ s' : Shared} {nw kn nw' kn' : List (Addr × Obj)} (G : Pur base s₀ s₁ nw kn) (G' : Pur base s₁ s' nw' kn') : Pur base s₀ s' (nw' ++ nw) kn := by
  have G1 := G.mono G'.keeps
  refine ⟨G1.same, G1.grow, G1.st, G1.known, fun p hp => ?_, ?_⟩
  · rcases List.mem_append.mp hp with hp | hp
    · refine ⟨(G'.made p hp).1, ?_⟩
      cases e : s₀.heap.get? p.1 with
      | none => rfl
      | some o => have := (G'.made p hp).2; rw [G.grow _ _ e] at this; cases this
    · exact G1.made p hp
  · rw [List.map_append, List.nodup_append]
    refine ⟨G'.nd, G.nd, fun a ha b hb e => ?_⟩
    obtain ⟨p, hp, rfl⟩ := List.mem_map.mp ha
    obtain ⟨q, hq, rfl⟩ := List.mem_map.mp hb
    have := (G'.made p hp).2
    rw [e, (G.made q hq).1] at this
    cases this
/-- taken out of the list -/
inductive Del (d : Addr) (o : Obj) : List (Addr × Obj) → List (Addr × Obj) → Prop
  | head {r} : Del d o ((d, o) :: r) r
  | tail {p r r'} : Del d o r r' → Del d o (p :: r) (p :: r')
theorem Del.mem {d : Addr} {o : Obj} : ∀ {l l' : List (Addr × Obj)}, Del d o l l' → (d, o) ∈ l
  | _, _, .head => List.Mem.head _
  | _, _, .tail r => List.Mem.tail _ r.mem
theorem Del.sub {d : Addr} {o : Obj} : ∀ {l l' : List (Addr × Obj)}, Del d o l l' → l'.Sublist l
  | _, _, .head => List.sublist_cons_self _ _
  | _, _, .tail r => r.sub.cons_cons _
theorem Del.off {d : Addr} {o : Obj} : ∀ {l l' : List (Addr × Obj)}, Del d o l l' → (l.map (·.1)).Nodup → ∀ p ∈ l', p.1 ≠ d
  | _, _, .head (r := r), hn, p, hp => fun e => (List.nodup_cons.mp hn).1 (List.mem_map.mpr ⟨p, hp, e⟩)
  | _, _, .tail (p := q) (r := r₀) r, hn, p, hp => by
    rw [List.map_cons, List.nodup_cons] at hn
    rcases List.mem_cons.mp hp with rfl | hp
    · exact fun e => hn.1 (by rw [e]; exact List.mem_map.mpr ⟨(d, o), r.mem, rfl⟩)
    · exact r.off hn.2 p hp
/-- an own object is let go: what becomes of it is not followed -/
theorem Pur.forget {base : Heap} {s₁ s s' : Shared} {nw nw' kn : List (Addr × Obj)} {a : Addr} {o : Obj} (G : Pur base s₁ s nw kn) (R : Del a o nw nw')
    (hs : ∃ h tk, s' = { s with heap := h, toks := tk }) (hk : ∀ b x, b ≠ a → s.heap.get? b = some x → s'.heap.get? b = some x) : Pur base s₁ s' nw' kn := by
  have hm := (G.made _ R.mem)
  obtain ⟨h, tk, rfl⟩ := G.same
  obtain ⟨h', tk', rfl⟩ := hs
  refine ⟨⟨h', tk', rfl⟩, fun b x e => hk b x (fun q => ?_) (G.grow b x e), G.st, G.known, fun p hp => ⟨hk _ _ (R.off G.nd p hp) (G.made p (R.sub.subset hp)).1, (G.made p (R.sub.subset hp)).2⟩, G.nd.sublist (R.sub.map _)⟩
  rw [q, hm.2] at e; cases e

noncomputable abbrev KF (w : World) : Frag := hd.heap_39 w.params

/-- what a call needs of the state in which it begins -/
structure Cx (base : Heap) (w : World) (A : Around) (h : Heap) (n : Nat) : Prop where
  X : (KF w).In base
  T : ∃ p loose mean mg mb, Top p loose mean mg mb base
  st : base.StaysIn h
  fr : ∃ outer, A.frames = some outer ∧ h.FunFrames base outer ∧ ∀ b ∈ outer.filterMap (·.frame), ∃ o es k, h.get? b = some o ∧ o.data = .dict es k
  hh : A.handled = none
  dep : A.depth + n < recursionLimit
  un : A.units + 10 * n + 50 < cLine

/-- the text's own world, as the base has it -/
structure Wd (base : Heap) (w : World) : Prop where
  X : (KF w).In base
  T : ∃ p loose mean mg mb, Top p loose mean mg mb base
theorem Cx.wd {base : Heap} {w : World} {A : Around} {h : Heap} {n : Nat} (C : Cx base w A h n) : Wd base w := ⟨C.X, C.T⟩

theorem Cx.mono {base : Heap} {w : World} {A : Around} {h h' : Heap} {n : Nat} (C : Cx base w A h n) (k : h.StaysIn h') : Cx base w A h' n := by
  obtain ⟨outer, h1, h2, h3⟩ := C.fr
  refine ⟨C.X, C.T, fun b o e => k b o (C.st b o e), ⟨outer, h1, h2.of_keeps fun b o e _ => ⟨o, k b o e, rfl⟩, fun b hb => ?_⟩, C.hh, C.dep, C.un⟩
  obtain ⟨o, es, j, ho, hd⟩ := h3 b hb
  exact ⟨o, es, j, k b o ho, hd⟩
theorem Cx.less {base : Heap} {w : World} {A : Around} {h : Heap} {n m : Nat} (C : Cx base w A h n) (k : m ≤ n) : Cx base w A h m :=
  ⟨C.X, C.T, C.st, C.fr, C.hh, by have := C.dep; omega, by have := C.un; omega⟩
theorem Cx.pur {base : Heap} {w : World} {A : Around} {s₁ s : Shared} {n : Nat} {nw kn : List (Addr × Obj)} (C : Cx base w A s₁.heap n) (G : Pur base s₁ s nw kn) : Cx base w A s.heap n := C.mono G.grow

/-- the frame of a call that has begun -/
theorem Cx.deeper {base : Heap} {w : World} {A : Around} {h : Heap} {n : Nat} {env : Env} {L : Addr} {o : Obj} {m : Str → Option Value} (C : Cx base w A h (n + 1)) (hf : env.frame = some L) (hk : env.scope.kind = .function)
    (hL : base.get? L = none) (ho : h.get? L = some o) (H : NsO o m) : Cx base w (A.deeper env) h n := by
  obtain ⟨outer, h1, h2, h3⟩ := C.fr
  obtain ⟨es, ep, hd, _⟩ := id H
  refine ⟨C.X, C.T, C.st, ⟨env :: outer, Around.frames_deeper h1, ⟨by rw [hk]; decide, ⟨L, o, hf, hL, ho, fun vs q => by rw [hd] at q; cases q⟩, h2⟩, fun b hb => ?_⟩, C.hh, ?_, ?_⟩
  · rw [List.filterMap_cons, hf] at hb
    rcases List.mem_cons.mp hb with rfl | hb
    · exact ⟨o, es, ep, ho, hd⟩
    · exact h3 b hb
  · have := C.dep; show A.depth + 1 + n < _; omega
  · have := C.un; show A.units + 3 + 10 * n + 50 < _; omega

/-- what the body of a call knows of where it stands -/
structure Deep (base : Heap) (w : World) (A : Around) (s₀ : Shared) (kn : List (Addr × Obj)) (L : Addr) (n : Nat) : Prop where
  wd : Wd base w
  hh : A.handled = none
  un : A.units + 50 < cLine
  here : ∀ s nw oL m, Pur base s₀ s nw kn → (L, oL) ∈ nw → NsO oL m → Cx base w A s.heap n

theorem Deep.of {base : Heap} {w : World} {A : Around} {s₀ : Shared} {kn : List (Addr × Obj)} {L : Addr} {n : Nat} {env : Env} (C : Cx base w A s₀.heap (n + 1)) (hf : env.frame = some L) (hk : env.scope.kind = .function) :
    Deep base w (A.deeper env) s₀ kn L n where
  wd := C.wd
  hh := C.hh
  un := by have := C.un; show A.units + 3 + 50 < _; omega
  here := fun s nw oL m G hm H => (C.pur G).deeper hf hk (by
    cases e : base.get? L with
    | none => rfl
    | some o => have := (G.made _ hm).2; rw [G.st _ _ e] at this; cases this) (G.made _ hm).1 H

section
variable {prog : Program} {w : World} {A : Around} {s : Shared} {base : Heap} {n : Nat} {R : Result → Shared → Prop} {name qual : Str} {params : Arguments} {body : List Stmt} {scope : Scope} {dV kV doc pm cdv ct oc : Value} {an od : Option Addr} {osl : Array (Option Value)}
  {f : Addr} {args : Args} {binds : List (Str × Value)} {kn : List (Addr × Obj)}

theorem base_none {s : Shared} {L : Addr} (st : base.StaysIn s.heap) (h : s.heap.get? L = none) : base.get? L = none := by
  cases e : base.get? L with
  | none => rfl
  | some o => have := st _ _ e; rw [h] at this; cases this

theorem enter (C : Cx base w A s.heap (n + 1)) (ho : (KF w).lookup f = some ⟨oc, od, .func (fnOf name qual params body scope dV kV doc pm an cdv ct), osl⟩) (hcd : codeIn (KF w) cdv qual = true)
    (hbind : BindsTo s (fnOf name qual params body scope dV kV doc pm an cdv ct) args binds) (hloc : (binds.all fun x => decide (scope.names.lookup x.1 = some .local)) = true)
    (hcell : ∀ x ∈ scope.names, x.2 ≠ .cell) (hco : scope.isCoroutine = false) (hgen : scope.isGenerator = false) (hk : scope.kind = .function)
    (hkn : ∀ p ∈ kn, s.heap.get? p.1 = some p.2)
    (h : ∀ L oL s₁, Pur base s s₁ [(L, oL)] kn → NsO oL (fun y => binds.reverse.lookup y) → Deep base w (A.deeper (envX qual scope L f cdv [])) s kn L n →
      wpAny (model prog w) (A.deeper (envX qual scope L f cdv [])) (execs body (envX qual scope L f cdv []))
        (fun fl s' => R (.ok (.ret (match fl with | .ret v => v | _ => .none))) s')
        (fun e s' => wpAny (model prog w) (A.deeper (envX qual scope L f cdv [])) (leaving (envX qual scope L f cdv []) e) (fun _ s'' => R (.error e) s'') (fun e' s'' => R (.error e') s'') s') s₁) :
    codeAny (model prog w) A (.call (.ref f) args) R s := by
  obtain ⟨p, loose, mean, mg, mb, T⟩ := C.T
  have X := C.X.keeps C.st
  have hn : s.heap.get? s.heap.objs.size = none := Heap.get?_none_of_le (Nat.le_refl _)
  refine codeAny_call_def (fd := fnOf name qual params body scope dV kV doc pm an cdv ct) (body := body) (binds := binds) (by have := C.dep; omega) (X _ _ ho) rfl (T.nolimit.keeps C.st) (codeRec_of X hcd) rfl hbind hcell (locs hloc) (fun h₁ hns hk₁ => ?_) hco hgen hk
  obtain ⟨oL, hoL, H⟩ := ns_o hns
  have G : Pur base s { s with heap := h₁, toks := s.toks + binds.length } [(s.heap.objs.size, oL)] kn :=
    Pur.new (s := s) (Pur.start C.st hkn) ⟨_, _, rfl, hk₁⟩ hn hoL
  exact h _ oL _ G H (Deep.of C rfl hk)

theorem enterC (C : Cx base w A s.heap (n + 1)) (ho : (KF w).lookup f = some ⟨oc, od, .func (fnOf name qual params body scope dV kV doc pm an cdv ct), osl⟩) (hcd : codeIn (KF w) cdv qual = true)
    (hbind : BindsTo s (fnOf name qual params body scope dV kV doc pm an cdv ct) args binds) (hkind : (binds.all fun y => scope.names.lookup y.1 == some .local || scope.names.lookup y.1 == some .cell) = true)
    (hnd : ((cellsFrom 0 scope.names []).map (·.1)).Nodup) (hco : scope.isCoroutine = false) (hgen : scope.isGenerator = false) (hk : scope.kind = .function)
    (hkn : ∀ p ∈ kn, s.heap.get? p.1 = some p.2)
    (h : ∀ L oL s₁ cells, Pur base s s₁ (cells ++ [(L, oL)]) kn → CellsAre (bindC (envOfC qual scope L f cdv).kindOf binds fun _ => none) (cellsFrom (L + 1) scope.names []) cells →
      NsO oL (bindL (envOfC qual scope L f cdv).kindOf binds fun _ => none) → Deep base w (A.deeper (envOfC qual scope L f cdv)) s kn L n →
      wpAny (model prog w) (A.deeper (envOfC qual scope L f cdv)) (execs body (envOfC qual scope L f cdv))
        (fun fl s' => R (.ok (.ret (match fl with | .ret v => v | _ => .none))) s')
        (fun e s' => wpAny (model prog w) (A.deeper (envOfC qual scope L f cdv)) (leaving (envOfC qual scope L f cdv) e) (fun _ s'' => R (.error e) s'') (fun e' s'' => R (.error e') s'') s') s₁) :
    codeAny (model prog w) A (.call (.ref f) args) R s := by
  obtain ⟨p, loose, mean, mg, mb, T⟩ := C.T
  have X := C.X.keeps C.st
  have hn : s.heap.get? s.heap.objs.size = none := Heap.get?_none_of_le (Nat.le_refl _)
  refine codeAny_call_function (fd := fnOf name qual params body scope dV kV doc pm an cdv ct) (by have := C.dep; omega) (X _ _ ho) rfl hco hgen rfl (codeRec_of X hcd) (hbind _ _ _ _ ?_)
  refine wpAny_newFunctionEnv_cells hk (kindsX hkind _) fun env' he s' x => ?_
  subst he
  refine ⟨(T.nolimit.keeps C.st).keeps x.toInCall.keep, codeAny_func ?_⟩
  obtain ⟨h₁, tk, rfl, hk₁⟩ := x.done
  have ndL : (cellsFrom (s.heap.objs.size + 1) scope.names []).map (·.1) |>.Nodup := cellsFrom_names scope.names 0 (s.heap.objs.size + 1) [] [] rfl ▸ hnd
  obtain ⟨cells, NC, Y⟩ := Cl.news (h₀ := s.heap) (Nat.le_refl _) fun n c hm => ⟨x.cell n c (lookup_of_mem_nodup ndL hm), x.above n c hm⟩
  obtain ⟨oL, hoL, H⟩ := ns_o x.toInCall.ns
  have G₀ : Pur base s { s with heap := h₁, toks := tk } [(s.heap.objs.size, oL)] kn := Pur.new (s := s) (Pur.start C.st hkn) ⟨_, _, rfl, hk₁⟩ hn hoL
  have addr : ∀ {cs : List (Str × Addr)} {cl : List (Addr × Obj)}, CellsAre (bindC (envOfC qual scope s.heap.objs.size f cdv).kindOf binds fun _ => none) cs cl → cl.map (·.1) = cs.map (·.2) := by
    intro cs cl y
    induction y with
    | nil => rfl
    | cons _ _ ih => rw [List.map_cons, List.map_cons, ih]
  have G : Pur base s { s with heap := h₁, toks := tk } (cells ++ [(s.heap.objs.size, oL)]) kn := by
    refine ⟨G₀.same, G₀.grow, G₀.st, G₀.known, fun p hp => ?_, ?_⟩
    · rcases List.mem_append.mp hp with hp | hp
      · exact ⟨(NC p hp).1, (NC p hp).2.2⟩
      · exact G₀.made p hp
    · rw [List.map_append, List.nodup_append]
      refine ⟨?_, List.nodup_cons.mpr ⟨List.not_mem_nil, List.nodup_nil⟩, fun a ha b hb => ?_⟩
      · rw [addr Y]
        exact List.Pairwise.map _ (fun _ _ e => e) x.apart
      · obtain ⟨p, hp, rfl⟩ := List.mem_map.mp ha
        rw [List.mem_singleton.mp hb]
        exact (NC p hp).2.1
  exact h _ oL _ cells G Y H (Deep.of C rfl hk)
end
def retOf (fl : Flow) : Value := match fl with | .ret v => v | _ => .none
section
variable {prog : Program} {w : World} {A : Around} {s : Shared} {base : Heap} {n : Nat} {Q E : Value → Shared → Prop} {name qual : Str} {params : Arguments} {body : List Stmt} {scope : Scope} {dV kV doc pm cdv ct oc : Value} {an od : Option Addr} {osl : Array (Option Value)}
  {f : Addr} {args : Args} {binds : List (Str × Value)} {kn : List (Addr × Obj)}
/-- a call of a def that raises nothing -/
theorem callP {vs : List Value} {kw : List (Str × Value)} (C : Cx base w A s.heap (n + 1)) (ho : (KF w).lookup f = some ⟨oc, od, .func (fnOf name qual params body scope dV kV doc pm an cdv ct), osl⟩) (hcd : codeIn (KF w) cdv qual = true)
    (hbind : BindsTo s (fnOf name qual params body scope dV kV doc pm an cdv ct) ⟨vs, kw⟩ binds) (hloc : (binds.all fun x => decide (scope.names.lookup x.1 = some .local)) = true)
    (hcell : ∀ x ∈ scope.names, x.2 ≠ .cell) (hco : scope.isCoroutine = false) (hgen : scope.isGenerator = false) (hk : scope.kind = .function)
    (hkn : ∀ p ∈ kn, s.heap.get? p.1 = some p.2)
    (h : ∀ A' L oL s₁, Pur base s s₁ [(L, oL)] kn → NsO oL (fun y => binds.reverse.lookup y) → Deep base w A' s kn L n →
      wpAny (model prog w) A' (execs body (envX qual scope L f cdv [])) (fun fl s' => Q (retOf fl) s') (fun _ _ => False) s₁) :
    wpAny (model prog w) A (call (.ref f) vs kw) Q E s :=
  wpAny_call (enter C ho hcd hbind hloc hcell hco hgen hk hkn fun L oL s₁ G H D => wpAny_mono (h _ L oL s₁ G H D) (fun _ _ x => x) fun _ _ x => x.elim)
theorem callPC {vs : List Value} {kw : List (Str × Value)} (C : Cx base w A s.heap (n + 1)) (ho : (KF w).lookup f = some ⟨oc, od, .func (fnOf name qual params body scope dV kV doc pm an cdv ct), osl⟩) (hcd : codeIn (KF w) cdv qual = true)
    (hbind : BindsTo s (fnOf name qual params body scope dV kV doc pm an cdv ct) ⟨vs, kw⟩ binds) (hkind : (binds.all fun y => scope.names.lookup y.1 == some .local || scope.names.lookup y.1 == some .cell) = true)
    (hnd : ((cellsFrom 0 scope.names []).map (·.1)).Nodup) (hco : scope.isCoroutine = false) (hgen : scope.isGenerator = false) (hk : scope.kind = .function)
    (hkn : ∀ p ∈ kn, s.heap.get? p.1 = some p.2)
    (h : ∀ A' L oL s₁ cells, Pur base s s₁ (cells ++ [(L, oL)]) kn → CellsAre (bindC (envOfC qual scope L f cdv).kindOf binds fun _ => none) (cellsFrom (L + 1) scope.names []) cells →
      NsO oL (bindL (envOfC qual scope L f cdv).kindOf binds fun _ => none) → Deep base w A' s kn L n →
      wpAny (model prog w) A' (execs body (envOfC qual scope L f cdv)) (fun fl s' => Q (retOf fl) s') (fun _ _ => False) s₁) :
    wpAny (model prog w) A (call (.ref f) vs kw) Q E s :=
  wpAny_call (enterC C ho hcd hbind hkind hnd hco hgen hk hkn fun L oL s₁ cells G Y H D => wpAny_mono (h _ L oL s₁ cells G Y H D) (fun _ _ x => x) fun _ _ x => x.elim)
end

abbrev lst (vs : List Value) (k : Nat) : Obj := { cls := .type "list", data := .seq vs.toArray k }
abbrev tup (vs : List Value) (k : Nat) : Obj := { cls := .type "tuple", data := .seq vs.toArray k }

section
variable {prog : Program} {w : World} {A : Around} {E : Value → Shared → Prop} {base : Heap} {s₀ s : Shared} {nw kn : List (Addr × Obj)} {env : Env} {m : Str → Option Value} {oL o : Obj} {x : Str} {pos : Pos} {v : Value} {Q : Value → Shared → Prop} {a c l : Addr}

theorem Pur.list (G : Pur base s₀ s nw kn) {vs : List Value} {k : Nat} (hm : (l, lst vs k) ∈ nw ∨ (l, lst vs k) ∈ kn) : s.heap.IsList l vs.toArray := ⟨_, G.get hm, rfl, k, rfl⟩

-- names
theorem nLoc (G : Pur base s₀ s nw kn) (hm : (env.locals, oL) ∈ nw ∨ (env.locals, oL) ∈ kn) (H : NsO oL m) (hv : m x = some v) (hk : env.scope.kind = .function) (hx : env.kindOf x = some .local) (hd : (x == ("__debug__" : Str)) = false) (h : Q v s) :
    wpAny (model prog w) A (eval (.Name x pos) env) Q E s := wpAny_Name (wpAny_loadName_local hk hx (H.ns (G.get hm)) hv h) hd
theorem nCell (G : Pur base s₀ s nw kn) (hk : env.scope.kind = .function) (hx : env.kindOf x = some .cell) (hc : env.cells.lookup x = some c) (hm : (c, o) ∈ nw ∨ (c, o) ∈ kn) (ho : o.data = .cell (some v)) (hd : (x == ("__debug__" : Str)) = false) (h : Q v s) :
    wpAny (model prog w) A (eval (.Name x pos) env) Q E s := wpAny_Name (wpAny_loadName_cell hk hx hc ⟨o, G.get hm, ho⟩ h) hd
theorem nFree (G : Pur base s₀ s nw kn) (hk : env.scope.kind = .function) (hx : env.kindOf x = some .free) (hc : env.cells.lookup x = some c) (hm : (c, o) ∈ nw ∨ (c, o) ∈ kn) (ho : o.data = .cell (some v)) (hd : (x == ("__debug__" : Str)) = false) (hn : (x == ("__classdict__" : Str)) = false) (h : Q v s) :
    wpAny (model prog w) A (eval (.Name x pos) env) Q E s := wpAny_Name (wpAny_loadName_free hk hx hc ⟨o, G.get hm, ho⟩ h hn) hd
theorem nGlob (G : Pur base s₀ s nw kn) (U : Wd base w) (hk : env.scope.kind = .function) (hx : env.kindOf x = some .globalImplicit) (hg : env.globals = mainGlobals) (e : nsIn (KF w) mainGlobals x = some (some v)) (hd : (x == ("__debug__" : Str)) = false) (h : Q v s) :
    wpAny (model prog w) A (eval (.Name x pos) env) Q E s := by
  obtain ⟨p, loose, mean, mg, mb, T⟩ := U.T
  exact Name_function_global hk hx (loadGlobal_global (env := env) (by rw [hg]; exact T.g.keeps G.based) (mg_of U.X T.g e) h) hd
theorem nBlt (G : Pur base s₀ s nw kn) (U : Wd base w) (hk : env.scope.kind = .function) (hx : env.kindOf x = some .globalImplicit) (hg : env.globals = mainGlobals) (hb : env.builtins = builtinsNs) (e : nsIn (KF w) mainGlobals x = some none)
    (hv : bootBuiltins x = some v) (hn : x ≠ "__name__") (hd : (x == ("__debug__" : Str)) = false) (h : Q v s) :
    wpAny (model prog w) A (eval (.Name x pos) env) Q E s := by
  obtain ⟨p, loose, mean, mg, mb, T⟩ := U.T
  exact Name_function_global hk hx (loadGlobal_builtin (env := env) (by rw [hg]; exact T.g.keeps G.based) (mg_none_of U.X T.g e) (by rw [hb]; exact T.b.keeps G.based) ((T.builtins x hn).trans hv) h) hd

-- constants
theorem cInt (G : Pur base s₀ s nw kn) {i : Int} {k : Nat} (h : ∀ t s', Pur base s₀ s' nw kn → Q (.int i t) s') : wpAny (model prog w) A (eval (.Constant (.int i) k pos) env) Q E s := wpAny_Constant_int (h _ _ (G.tok _))
theorem cStr (G : Pur base s₀ s nw kn) {i : Str} {k : Nat} (h : ∀ t s', Pur base s₀ s' nw kn → Q (.str i t) s') : wpAny (model prog w) A (eval (.Constant (.str i) k pos) env) Q E s := Calls.Constant_str (h _ _ (G.tok _))
theorem cBytes (G : Pur base s₀ s nw kn) {i : List UInt8} {k : Nat} (h : ∀ t s', Pur base s₀ s' nw kn → Q (.bytes i.toArray t) s') : wpAny (model prog w) A (eval (.Constant (.bytes i) k pos) env) Q E s := Constant_bytes (h _ _ (G.tok _))

-- ints
variable {i j : Int} {t u : Tok}
theorem iAdd (G : Pur base s₀ s nw kn) (h : ∀ t s', Pur base s₀ s' nw kn → Q (.int (i + j) t) s') : wpAny (model prog w) A (binaryOp .Add (.int i t) (.int j u)) Q E s := add_int (h _ _ (G.tok _))
theorem iSub (G : Pur base s₀ s nw kn) (h : ∀ t s', Pur base s₀ s' nw kn → Q (.int (i - j) t) s') : wpAny (model prog w) A (binaryOp .Sub (.int i t) (.int j u)) Q E s := sub_int (h _ _ (G.tok _))
theorem iMul (G : Pur base s₀ s nw kn) (hok : IntMulOk i j) (h : ∀ t s', Pur base s₀ s' nw kn → Q (.int (i * j) t) s') : wpAny (model prog w) A (binaryOp .Mult (.int i t) (.int j u)) Q E s := mul_int (h _ _ (G.tok _)) hok
theorem iMod (G : Pur base s₀ s nw kn) (hj : j ≠ 0) (h : ∀ t s', Pur base s₀ s' nw kn → Q (.int (i.fmod j) t) s') : wpAny (model prog w) A (binaryOp .Mod (.int i t) (.int j u)) Q E s := mod_int' hj (h _ _ (G.tok _))
theorem iDiv (G : Pur base s₀ s nw kn) (hj : j ≠ 0) (hp : j.natAbs < 1073741824) (h : ∀ t s', Pur base s₀ s' nw kn → Q (.int (i.fdiv j) t) s') : wpAny (model prog w) A (binaryOp .FloorDiv (.int i t) (.int j u)) Q E s := floordiv_int hj (h _ _ (G.tok _)) (.inl (PyProof.noPylong_small hp))
theorem iPow (G : Pur base s₀ s nw kn) (h0 : 0 ≤ j) (h1 : j ≤ 1000000) (h2 : i.natAbs < 2 ^ 64) (h : ∀ t s', Pur base s₀ s' nw kn → Q (.int (i ^ j.toNat) t) s') : wpAny (model prog w) A (binaryOp .Pow (.int i t) (.int j u)) Q E s := pow_int_small h0 h1 h2 (h _ _ (G.tok _))
theorem iShl (G : Pur base s₀ s nw kn) (h0 : 0 ≤ j) (h1 : j ≤ 1000000) (h2 : i.natAbs < 2 ^ 64) (h : ∀ t s', Pur base s₀ s' nw kn → Q (.int (i * 2 ^ j.toNat) t) s') : wpAny (model prog w) A (binaryOp .LShift (.int i t) (.int j u)) Q E s := lshift_int_small h0 h1 h2 (h _ _ (G.tok _))
theorem iShr (G : Pur base s₀ s nw kn) (h0 : 0 ≤ j) (h : ∀ t s', Pur base s₀ s' nw kn → Q (.int (i.fdiv (2 ^ j.toNat)) t) s') : wpAny (model prog w) A (binaryOp .RShift (.int i t) (.int j u)) Q E s := rshift_int h0 (h _ _ (G.tok _))
theorem iAnd (G : Pur base s₀ s nw kn) (h : ∀ t s', Pur base s₀ s' nw kn → Q (.int (Builtin.bitAnd i j) t) s') : wpAny (model prog w) A (binaryOp .BitAnd (.int i t) (.int j u)) Q E s := and_int (h _ _ (G.tok _))
theorem iOr (G : Pur base s₀ s nw kn) (h : ∀ t s', Pur base s₀ s' nw kn → Q (.int (Builtin.bitOr i j) t) s') : wpAny (model prog w) A (binaryOp .BitOr (.int i t) (.int j u)) Q E s := or_int (h _ _ (G.tok _))
theorem bSub (G : Pur base s₀ s nw kn) {p q : Bool} (h : ∀ t s', Pur base s₀ s' nw kn → Q (.int (b2i p - b2i q) t) s') : wpAny (model prog w) A (binaryOp .Sub (.bool p) (.bool q)) Q E s := sub_bool (h _ _ (G.tok _))
theorem aAdd (G : Pur base s₀ s nw kn) (h : ∀ t s', Pur base s₀ s' nw kn → Q (.int (i + j) t) s') : wpAny (model prog w) A (inplaceOp .Add (.int i t) (.int j u)) Q E s := iadd_int (h _ _ (G.tok _))
theorem aShl (G : Pur base s₀ s nw kn) (h0 : 0 ≤ j) (h1 : j ≤ 1000000) (h2 : i.natAbs < 2 ^ 64) (h : ∀ t s', Pur base s₀ s' nw kn → Q (.int (i * 2 ^ j.toNat) t) s') : wpAny (model prog w) A (inplaceOp .LShift (.int i t) (.int j u)) Q E s := ilshift_int_small h0 h1 h2 (h _ _ (G.tok _))
theorem aOr (G : Pur base s₀ s nw kn) (h : ∀ t s', Pur base s₀ s' nw kn → Q (.int (Builtin.bitOr i j) t) s') : wpAny (model prog w) A (inplaceOp .BitOr (.int i t) (.int j u)) Q E s := ior_int (h _ _ (G.tok _))

-- lists
theorem lItem (G : Pur base s₀ s nw kn) {value slice : Expr} {vs : List Value} {k : Nat} {n : Int} (hm : (l, lst vs k) ∈ nw ∨ (l, lst vs k) ∈ kn) (h0 : 0 ≤ n) (h1 : n < 2 ^ 63) (hv : vs[n.toNat]? = some v)
    (hs : subscripted slice false (.ref l) (.int n u) = operate [.ref l, .int n u] (getItem (.ref l) (.int n u))) (h : Q v s) : wpAny (model prog w) A (subscriptTail value slice (.ref l) (.int n u)) Q E s :=
  tail_any (G.list hm).typeIs slot_list_getitem.lookup (wpAny_getItem_list (G.list hm) h0 h1 (by simpa using hv) h) hs
theorem lLen (G : Pur base s₀ s nw kn) {vs : List Value} {k : Nat} (hm : (l, lst vs k) ∈ nw ∨ (l, lst vs k) ∈ kn) (hz : vs.length < 2 ^ 62) (h : ∀ t s', Pur base s₀ s' nw kn → Q (.int (vs.length : Int) t) s') :
    wpAny (model prog w) A (call (.builtin "len") [.ref l]) Q E s := by
  refine PyProof.Rows.len_list (G.list hm) (by simp only [List.size_toArray]; omega) ?_
  have := h (s.toks + 1) { s with toks := s.toks + 2 } (G.tok _)
  simpa using this
theorem lNew (G : Pur base s₀ s nw kn) {vs : List Value} (hz : vs.length ≤ sizeLine) (h : ∀ D s', Pur base s₀ s' ((D, lst vs 0) :: nw) kn → Q (.ref D) s') : wpAny (model prog w) A (newList vs) Q E s :=
  wpAny_newObj_type (h _ _ (G.push rfl)) (by show vs.toArray.size ≤ sizeLine; rw [List.size_toArray]; exact hz)
theorem tNew (G : Pur base s₀ s nw kn) {vs : List Value} (hz : vs.length ≤ sizeLine) (h : ∀ D s', Pur base s₀ s' ((D, tup vs 0) :: nw) kn → Q (.ref D) s') : wpAny (model prog w) A (newTuple vs) Q E s :=
  wpAny_newObj_type (h _ _ (G.push rfl)) (by show vs.toArray.size ≤ sizeLine; rw [List.size_toArray]; exact hz)
theorem lRange (G : Pur base s₀ s nw kn) {n : Int} (h : ∀ r t₁ t₂ s', Pur base s₀ s' ((r, { cls := .type "range", data := .fields #[.int 0 t₁, .int n t, .int 1 t₂] }) :: nw) kn → Q (.ref r) s') :
    wpAny (model prog w) A (call (.type "range") [.int n t]) Q E s := call_range_1 (h _ _ _ _ ((G.push rfl).tok _))

end

section
variable {prog : Program} {w : World} {A : Around} {E : Value → Shared → Prop} {base : Heap} {s₀ s : Shared} {nw nw' kn : List (Addr × Obj)} {env : Env} {m : Str → Option Value} {oL o : Obj} {x : Str} {pos : Pos} {v : Value} {a c l : Addr}
-- stores
theorem sLoc (G : Pur base s₀ s nw kn) {Q : Unit → Shared → Prop} {L : Addr} (hL : env.locals = L) (hm : (L, oL) ∈ nw) (H : NsO oL m) (hk : env.scope.kind = .function) (hx : env.kindOf x = some .local) (g : Obj → List (Addr × Obj)) (R : ∀ o', Rep L oL o' nw (g o'))
    (h : ∀ o' s', Pur base s₀ s' (g o') kn → NsO o' (fun y => if y = x then some v else m y) → Q () s') : wpAny (model prog w) A (storeName env x v) Q E s := by
  subst hL
  refine wpAny_storeName_local hx (H.ns (G.get (.inl hm))) (fun h' hn hs => ?_) (by rw [hk]; rfl)
  obtain ⟨o', ho', H'⟩ := ns_o hn
  exact h o' _ (G.change (R o') ⟨_, _, rfl⟩ (fun b z hb e => hs.extBut b z hb e) ho') H'
theorem sCell (G : Pur base s₀ s nw kn) {Q : Unit → Shared → Prop} {v₀ : Option Value} (hk : env.scope.kind = .function) (hx : env.kindOf x = some .cell) (hc : env.cells.lookup x = some c) (hm : (c, o) ∈ nw) (ho : o.data = .cell v₀)
    (g : Obj → List (Addr × Obj)) (R : ∀ o', Rep c o o' nw (g o')) (h : ∀ o' s', Pur base s₀ s' (g o') kn → o'.data = .cell (some v) → Q () s') : wpAny (model prog w) A (storeName env x v) Q E s := by
  refine wpAny_storeName_cell hk hx hc ⟨o, G.get (.inl hm), ho⟩ fun h' hv hs => ?_
  obtain ⟨o', ho', hd'⟩ := hv
  exact h o' _ (G.change (R o') ⟨_, _, rfl⟩ (fun b z hb e => hs.extBut b z hb e) ho') hd'
-- statements
theorem seq {M : Model} {Q : Flow → Shared → Prop} {st : Stmt} {rest : List Stmt} (Post : Shared → Prop) (h1 : wpAny M A (exec st env) (fun f s' => f = .next ∧ Post s') E s) (h2 : ∀ s', Post s' → wpAny M A (execs rest env) Q E s') :
    wpAny M A (execs (st :: rest) env) Q E s :=
  wpAny_execs_cons (wpAny_mono h1 (fun f s' h => by obtain ⟨rfl, hp⟩ := h; exact h2 s' hp) fun _ _ e => e)
theorem seqRet {M : Model} {Q : Flow → Shared → Prop} {e : Expr} {rest : List Stmt} (h : wpAny M A (eval e env) (fun v s' => Q (.ret v) s') E s) : wpAny M A (execs (.Return (some e) pos :: rest) env) Q E s :=
  wpAny_execs_cons (wpAny_Return_some h)
end
-- small helpers of the proof, spoken through the walk's own word
local macro_rules | `(tactic| walk_at "m_mem") => `(tactic| first | exact List.Mem.head _ | (refine' List.Mem.tail _ ?_; walk_at "m_mem"))
local macro_rules | `(tactic| walk_at "m_kn") => `(tactic| first | (refine Or.inl ?_; walk_at "m_mem") | (refine Or.inr ?_; walk_at "m_mem"))
local macro_rules | `(tactic| walk_at "m_rep") => `(tactic| first | exact Rep.head | (refine' Rep.tail ?_; walk_at "m_rep"))
local macro_rules | `(tactic| walk_at "m_look") => `(tactic| first | exact rfl | assumption | (refine Eq.trans (if_neg (by decide)) ?_; walk_at "m_look"))
local macro_rules | `(tactic| walk_at "m_name") => `(tactic| ((with_reducible show wpAny _ _ (eval (Expr.Name _ _) _) _ _ _); first
  | (refine' nLoc ?G ?hm ?H ?hv ?hk ?hx ?hd ?_; (case hx => exact rfl); (case hk => exact rfl); (case G => assumption); (case hm => walk_at "m_kn"); (case H => assumption); (case hv => walk_at "m_look"); (case hd => decide))
  | (refine' nCell ?G ?hk ?hx ?hc ?hm ?ho ?hd ?_; (case hx => exact rfl); (case hk => exact rfl); (case G => assumption); (case hc => exact rfl); (case hm => walk_at "m_kn"); (case ho => assumption); (case hd => decide))
  | (refine' nGlob ?G ?U ?hk ?hx ?hg ?e ?hd ?_; (case hx => exact rfl); (case hk => exact rfl); (case hg => exact rfl); (case G => assumption); (case U => assumption); (case e => exact rfl); (case hd => decide))
  | (refine' nBlt ?G ?U ?hk ?hx ?hg ?hb ?e ?hv ?hn ?hd ?_; (case hx => exact rfl); (case hk => exact rfl); (case hg => exact rfl); (case hb => exact rfl); (case G => assumption); (case U => assumption); (case e => exact rfl); (case hv => boot_fast); (case hn => decide); (case hd => decide))
  | (refine' nFree ?G ?hk ?hx ?hc ?hm ?ho ?hd ?hn ?_; (case hx => exact rfl); (case hk => exact rfl); (case G => assumption); (case hc => exact rfl); (case hm => walk_at "m_kn"); (case ho => assumption); (case hd => decide); (case hn => decide))))
local macro_rules | `(tactic| walk_at "m_e") => `(tactic| first
  | walk_at "m_name"
  | with_reducible refine wpAny_BinOp ?_
  | with_reducible refine wpAny_isTrue_Compare1 ?_
  | with_reducible refine wpAny_Compare1 ?_
  | with_reducible refine wpAny_truthy_bool ?_
  | (with_reducible refine' cInt ?G ?_; (case G => assumption); intro _ _ _)
  | (with_reducible refine' cStr ?G ?_; (case G => assumption); intro _ _ _)
  | (with_reducible refine' iAdd ?G ?_; (case G => assumption); intro _ _ _)
  | (with_reducible refine' iSub ?G ?_; (case G => assumption); intro _ _ _)
  | (with_reducible refine' iAnd ?G ?_; (case G => assumption); intro _ _ _)
  | (with_reducible refine' iOr ?G ?_; (case G => assumption); intro _ _ _)
  | (with_reducible refine' iMod ?G ?hj ?_; (case G => assumption); (case hj => first | decide | assumption); intro _ _ _)
  | (with_reducible refine' bSub ?G ?_; (case G => assumption); intro _ _ _)
  | with_reducible refine PyProof.Rows.ne_int ?_
  | with_reducible refine PyProof.Rows.eq_int ?_
  | with_reducible refine PyProof.Rows.lt_int ?_
  | with_reducible refine PyProof.Rows.gt_int ?_
  | with_reducible refine PyProof.Rows.ge_int ?_
  | with_reducible refine Subscript_ ?_
  | ((with_reducible show wpAny _ _ (eval (Expr.Call (Expr.Name _ _) _ [] _) _) _ _ _); refine Call_ ?_)
  | ((with_reducible show wpAny _ _ (callWith _ (Value.builtin _) [] _ _) _ _ _); refine PyProof.Rows.callWith_builtin1 ?_)
  | ((with_reducible show wpAny _ _ (callWith _ (Value.type _) [] _ _) _ _ _); refine Pv.callWith_type1 ?_)
  | ((with_reducible show wpAny _ _ (spliced (backTo _ (starEach (_ :: _) _))) _ _ _); refine spliced_more ?_)
  | ((with_reducible show wpAny _ _ (spliced (backTo _ (starEach [] _))) _ _ _); refine spliced_none ?_))
local macro_rules | `(tactic| walk_at "m_sL") => `(tactic| (refine' sLoc ?G ?hL ?hm ?H ?hk ?hx _ ?R ?_; (case hx => exact rfl); (case hk => exact rfl); (case hL => exact rfl); (case G => assumption); (case hm => walk_at "m_mem"); (case H => assumption); (case R => (intro _; walk_at "m_rep"))))
local macro_rules | `(tactic| walk_at "m_sC") => `(tactic| (refine' sCell ?G ?hk ?hx ?hc ?hm ?ho _ ?R ?_; (case hx => exact rfl); (case hk => exact rfl); (case hc => exact rfl); (case G => assumption); (case hm => walk_at "m_mem"); (case ho => assumption); (case R => (intro _; walk_at "m_rep"))))
local macro_rules | `(tactic| walk_at "m_sub") => `(tactic| first | exact List.Sublist.slnil | (refine List.Sublist.cons_cons _ ?_; walk_at "m_sub") | (refine List.Sublist.cons _ ?_; walk_at "m_sub"))
local macro_rules | `(tactic| walk_at "m_c") => `(tactic| first
  | ((with_reducible show wpAny _ _ (callWith _ (Value.ref _) [] _ []) _ _ _); refine callWith_K (Wd.X (by assumption)) rfl ?_)
  | ((with_reducible show Frag.In _ _ ∧ _); refine ⟨Frag.In.keeps (Wd.X (by assumption)) (Pur.based (by assumption)), ?_⟩; (try dsimp only [List.nil_append, List.cons_append]))
  | walk_at "m_e")

section
variable {prog : Program} {w : World} {A : Around} {E : Value → Shared → Prop} {base : Heap} {s : Shared} {Q : Value → Shared → Prop} {i j : Int} {t u : Tok}
theorem cmp_int (C : Cx base w A s.heap 1) (h : ∀ t s', Keeps s s' → Q (.int (b2i (decide (j < i)) - b2i (decide (i < j))) t) s') : wpAny (model prog w) A (call (.ref 72) [.int i t, .int j u]) Q E s := by
  refine callP (n := 0) (kn := []) C rfl rfl (BindsTo.of_eq rfl) rfl (by decide) rfl rfl rfl (fun _ h => nomatch h) fun A' L oL s₁ G H D => ?_
  have U := D.wd
  refine seqRet (wpAny_BinOp ?_)
  refine wpAny_Compare1 ?_
  walk_at "m_name"
  walk_at "m_name"
  refine PyProof.Rows.gt_int ?_
  refine wpAny_Compare1 ?_
  walk_at "m_name"
  walk_at "m_name"
  refine PyProof.Rows.lt_int ?_
  refine bSub G fun t s' G' => ?_
  exact h _ _ G'.keeps
end

-- comprehensions over a source that walks
theorem Pur.behind {base : Heap} {s₀ s₂ s₃ : Shared} {nw kn : List (Addr × Obj)} {I C : Addr} {oI oC : Obj} (G : Pur base s₀ s₂ ((I, oI) :: nw) kn) (hC : s₃.heap.get? C = some oC)
    (hk : ∀ b o, b ∉ [I] → s₂.heap.get? b = some o → s₃.heap.get? b = some o) : Pur base s₃ s₃ [] ((C, oC) :: (nw ++ kn)) := by
  have hI := (G.made _ (List.Mem.head _)).2
  have nd := G.nd
  rw [List.map_cons, List.nodup_cons] at nd
  have k0 : ∀ b o, s₀.heap.get? b = some o → s₃.heap.get? b = some o := fun b o e => hk b o (fun q => by rw [List.mem_singleton.mp q, hI] at e; cases e) (G.grow _ _ e)
  refine Pur.start (fun b o e => k0 b o (G.st _ _ e)) fun p hp => ?_
  rcases List.mem_cons.mp hp with rfl | hp
  · exact hC
  · rcases List.mem_append.mp hp with hp | hp
    · exact hk _ _ (fun q => nd.1 (List.mem_map.mpr ⟨p, hp, List.mem_singleton.mp q⟩)) (G.made p (List.mem_cons_of_mem _ hp)).1
    · exact k0 _ _ (G.known p hp)
theorem Pur.past {base : Heap} {s₀ s₂ : Shared} {h' : Heap} {tk : Nat} {nw kn : List (Addr × Obj)} {I : Addr} {oI : Obj} (G : Pur base s₀ s₂ ((I, oI) :: nw) kn)
    (hk : ∀ b o, b ∉ [I] → s₂.heap.get? b = some o → h'.get? b = some o) : Pur base s₀ { s₂ with heap := h', toks := tk } nw kn := by
  have hI := (G.made _ (List.Mem.head _)).2
  have nd := G.nd
  rw [List.map_cons, List.nodup_cons] at nd
  obtain ⟨h, t, rfl⟩ := G.same
  exact ⟨⟨_, _, rfl⟩, fun b o e => hk b o (fun q => by rw [List.mem_singleton.mp q, hI] at e; cases e) (G.grow _ _ e), G.st, G.known,
    fun p hp => ⟨hk _ _ (fun q => nd.1 (List.mem_map.mpr ⟨p, hp, List.mem_singleton.mp q⟩)) (G.made p (List.mem_cons_of_mem _ hp)).1, (G.made p (List.mem_cons_of_mem _ hp)).2⟩, nd.2⟩
theorem Pur.pastNew {base : Heap} {s₀ s₂ : Shared} {h' : Heap} {tk : Nat} {nw kn : List (Addr × Obj)} {I D : Addr} {oI oD : Obj} (G : Pur base s₀ s₂ ((I, oI) :: nw) kn)
    (hk : ∀ b o, b ∉ [I] → s₂.heap.get? b = some o → h'.get? b = some o) (hn : s₂.heap.get? D = none) (hD : h'.get? D = some oD) : Pur base s₀ { s₂ with heap := h', toks := tk } ((D, oD) :: nw) kn := by
  have P := G.past (tk := tk) hk
  refine ⟨P.same, P.grow, P.st, P.known, fun p hp => ?_, ?_⟩
  · rcases List.mem_cons.mp hp with rfl | hp
    · refine ⟨hD, ?_⟩
      cases e : s₀.heap.get? D with
      | none => rfl
      | some o => have := G.grow _ _ e; rw [hn] at this; cases this
    · exact P.made p hp
  · refine List.nodup_cons.mpr ⟨fun hm => ?_, P.nd⟩
    obtain ⟨p, hp, e⟩ := List.mem_map.mp hm
    have := (G.made p (List.mem_cons_of_mem _ hp)).1
    rw [e, hn] at this; cases this

abbrev tst (ifs : List Expr) (env : Env) : Sem Bool := forIn ifs true fun c r => if r = true then do let ok ← isTrue c env (eval c env); pure (ForInStep.yield ok) else pure (ForInStep.yield r)

section
variable {prog : Program} {w : World} {A : Around} {E : Value → Shared → Prop} {base : Heap} {s₀ s : Shared} {nw kn : List (Addr × Obj)} {env : Env}

theorem tst_nil {E : Value → Shared → Prop} {v : Value} {p : Value → Bool} (hp : p v = true) : wpAny (model prog w) A (tst [] env) (fun ok s₄ => ok = p v ∧ Keeps s s₄) E s := by
  show wpAny _ _ (forIn [] true _) _ _ _
  rw [List.forIn_nil]
  exact wpAny_pure ⟨hp.symm, _, _, rfl, fun _ _ e => e⟩
theorem tst_one {E : Value → Shared → Prop} {b : Bool} {c : Expr} (h : wpAny (model prog w) A (isTrue c env (eval c env)) (fun ok s₄ => ok = b ∧ Keeps s s₄) E s) : wpAny (model prog w) A (tst [c] env) (fun ok s₄ => ok = b ∧ Keeps s s₄) E s := by
  show wpAny _ _ (forIn [c] true _) _ _ _
  rw [List.forIn_cons]
  simp only [if_true]
  refine wpAny_bind (wpAny_bind (wpAny_mono h (fun ok s₄ h₄ => wpAny_pure ?_) fun _ _ e => e))
  show wpAny _ _ (forIn [] ok _) _ _ _
  rw [List.forIn_nil]
  exact wpAny_pure h₄

/-- what a comprehension's test and element are to show, its source being told by P -/
structure CompOk (prog : Program) (w : World) (A : Around) (base : Heap) (kn : List (Addr × Obj)) (env : Env) (scope : Scope) (cl : List (Str × Addr)) (x : Str) (ifs : List Expr) (elt : Expr) (P : Nat → Value → Prop) (p : Value → Bool) (F : Value → Value → Prop) (h₁ : Heap) : Prop where
  test : ∀ C oC i v s₃ m₃ E', P i v → NsO oC m₃ → m₃ x = some v → Pur base s₃ s₃ [] ((C, oC) :: kn) → h₁.StaysIn s₃.heap → wpAny (model prog w) A (tst ifs (compEnvC scope cl C env)) (fun ok s₄ => ok = p v ∧ Keeps s₃ s₄) E' s₃
  elt : ∀ C oC i v s₃ m₃ E', P i v → p v = true → NsO oC m₃ → m₃ x = some v → Pur base s₃ s₃ [] ((C, oC) :: kn) → h₁.StaysIn s₃.heap → wpAny (model prog w) A (eval elt (compEnvC scope cl C env)) (fun y s₄ => F v y ∧ Keeps s₃ s₄) E' s₃

theorem stays_past {base : Heap} {s₁ s₂ s₃ : Shared} {I : Addr} (h12 : s₁.heap.StaysIn s₂.heap) (hI : s₁.heap.get? I = none) (hk : ∀ b o, b ∉ [I] → s₂.heap.get? b = some o → s₃.heap.get? b = some o) : s₁.heap.StaysIn s₃.heap :=
  fun b o e => hk b o (fun q => by rw [List.mem_singleton.mp q, hI] at e; cases e) (h12 b o e)

/-- a source at a state: the iterator, and how it walks -/
structure Src (prog : Program) (w : World) (A : Around) (base : Heap) (s₀ s₁ : Shared) (nw kn : List (Addr × Obj)) (n : Nat) (P : Nat → Value → Prop) (I : Addr) (s₂ : Shared) : Prop where
  walk : ∃ fp St, Walks prog w A I fp [I] n P St ∧ (∀ i h, St i h → ∀ b ∈ [I], ∃ o, h.get? b = some o) ∧ St 0 s₂.heap ∧ (∀ b ∈ fp, b < s₂.heap.objs.size)
  size : n ≤ sizeLine
  grow : s₁.heap.StaysIn s₂.heap
  new : s₁.heap.get? I = none
  pur : ∃ oI, Pur base s₀ s₂ ((I, oI) :: nw) kn

theorem compW {elt iter : Expr} {x : Str} {px : Pos} {ifs : List Expr} {scope : Scope} {cl : List (Str × Addr)} {pos : Pos} {Q : Value → Shared → Prop} (p : Value → Bool) (F : Value → Value → Prop)
    (hclos : closureFor scope env = pure cl) (hcell : ∀ y ∈ scope.names, y.2 ≠ .cell) (hkind : scope.kind = .function)
    (hnames : ∀ y ∈ scope.names, y.2 = .local → scope.names.lookup y.1 = some .local) (hx : scope.names.lookup x = some .local) (hs : ∀ x, foldedSetIterable iter env x = pure x)
    (h : wpAny (model prog w) A (eval iter env) (fun xv s₁ => wpAny (model prog w) A (pyIter xv) (fun it s₂ => ∃ I n P nw, it = .ref I ∧ Src prog w A base s₀ s₁ nw kn n P I s₂ ∧ CompOk prog w A base (nw ++ kn) env scope cl x ifs elt P p F s₁.heap ∧
      (∀ D k (ys vs : List Value) s', vs.length = n → (∀ j v, vs[j]? = some v → P j v) → Paired F (vs.filter p) ys → Pur base s₀ s' ((D, lst ys k) :: nw) kn → Q (.ref D) s')) E s₁) E s) :
    wpAny (model prog w) A (eval (.ListComp elt [⟨.Name x px, iter, ifs, 0⟩] scope pos) env) Q E s := by
  refine wpAny_ListComp_free p F hclos hcell hkind hnames hx (wpAny_mono h (fun xv s₁ h₁ => wpAny_mono h₁ (fun it s₂ h₂ => ?_) fun _ _ e => e) fun _ _ e => e) hs
  obtain ⟨I, n, P, nw, rfl, S, Ok, fin⟩ := h₂
  obtain ⟨fp, St, W, hlive, hst, hfp⟩ := S.walk
  obtain ⟨oI, G⟩ := S.pur
  refine ⟨I, fp, [I], n, P, St, rfl, W, S.size, hst, hfp, ⟨fun C i v s₃ m₃ E' _ hP hn hm hk _ => ?_, fun C i v s₃ m₃ E' _ hP hp hn hm hk _ => ?_⟩, fun D h' tk ys vs hnew _ hpl hlen hPs hF hk => ?_⟩
  · obtain ⟨oC, hoC, HC⟩ := ns_o hn
    exact Ok.test C oC i v s₃ m₃ E' hP HC hm (G.behind hoC hk) (stays_past (base := base) S.grow S.new hk)
  · obtain ⟨oC, hoC, HC⟩ := ns_o hn
    exact Ok.elt C oC i v s₃ m₃ E' hP hp HC hm (G.behind hoC hk) (stays_past (base := base) S.grow S.new hk)
  · obtain ⟨k, hD⟩ := hpl
    refine fin D k ys.toList vs _ hlen hPs hF (G.pastNew hk hnew ?_)
    simpa using hD

theorem compWA {elt iter : Expr} {x y : Str} {px py : Pos} {ifs : List Expr} {scope : Scope} {cl : List (Str × Addr)} {pos spos : Pos} {Q : Flow → Shared → Prop} {m : Str → Option Value} {L : Addr} (p : Value → Bool) (F : Value → Value → Prop)
    (hsw : swapsWith (.ListComp elt [⟨.Name x px, iter, ifs, 0⟩] scope pos) (some (.Name y py)) spos.line env = pure true)
    (hclos : closureFor scope env = pure cl) (hcell : ∀ z ∈ scope.names, z.2 ≠ .cell) (hkind : scope.kind = .function)
    (hnames : ∀ z ∈ scope.names, z.2 = .local → scope.names.lookup z.1 = some .local) (hx : scope.names.lookup x = some .local)
    (hy : env.kindOf y = some .local) (hke : env.scope.kind = .function) (hs : ∀ x, foldedSetIterable iter env x = pure x) (hL : env.locals = L)
    (h : wpAny (model prog w) A (eval iter env) (fun xv s₁ => wpAny (model prog w) A (pyIter xv) (fun it s₂ => ∃ I n P nw oL, ∃ g : Obj → List (Addr × Obj), it = .ref I ∧ Src prog w A base s₀ s₁ nw kn n P I s₂ ∧ CompOk prog w A base (nw ++ kn) env scope cl x ifs elt P p F s₁.heap ∧
      NsO oL m ∧ (∀ o', Rep L oL o' nw (g o')) ∧
      (∀ D k (ys vs : List Value) o' s', vs.length = n → (∀ j v, vs[j]? = some v → P j v) → Paired F (vs.filter p) ys → Pur base s₀ s' ((D, lst ys k) :: g o') kn → NsO o' (fun z => if z = y then some (.ref D) else m z) → Q .next s')) E s₁) E s) :
    wpAny (model prog w) A (exec (.Assign [.Name y py] (.ListComp elt [⟨.Name x px, iter, ifs, 0⟩] scope pos) spos) env) Q E s := by
  subst hL
  refine wpAny_Assign_ListComp_free p F hsw hclos hcell hkind hnames hx hy (by rw [hke]; rfl) (wpAny_mono h (fun xv s₁ h₁ => wpAny_mono h₁ (fun it s₂ h₂ => ?_) fun _ _ e => e) fun _ _ e => e) hs
  obtain ⟨I, n, P, nw, oL, g, rfl, S, Ok, H, R, fin⟩ := h₂
  obtain ⟨fp, St, W, hlive, hst, hfp⟩ := S.walk
  obtain ⟨oI, G⟩ := S.pur
  have nd := G.nd
  rw [List.map_cons, List.nodup_cons] at nd
  have hLm := (R oL).mem
  have hLI : env.locals ∉ [I] := fun q => nd.1 (List.mem_map.mpr ⟨_, hLm, List.mem_singleton.mp q⟩)
  refine ⟨I, fp, [I], n, P, St, m, rfl, W, S.size, hst, hfp, hLI, H.ns (G.get (.inl (List.mem_cons_of_mem _ hLm))), ⟨fun C i v s₃ m₃ E' _ hP hn hm hk _ => ?_, fun C i v s₃ m₃ E' _ hP hp hn hm hk _ => ?_⟩, fun D h' tk ys vs hnew _ hpl hlen hPs hF hns hk => ?_⟩
  · obtain ⟨oC, hoC, HC⟩ := ns_o hn
    exact Ok.test C oC i v s₃ m₃ E' hP HC hm (G.behind hoC hk) (stays_past (base := base) S.grow S.new hk)
  · obtain ⟨oC, hoC, HC⟩ := ns_o hn
    exact Ok.elt C oC i v s₃ m₃ E' hP hp HC hm (G.behind hoC hk) (stays_past (base := base) S.grow S.new hk)
  · obtain ⟨k, hD⟩ := hpl
    obtain ⟨oL', hoL', HL'⟩ := ns_o hns
    have hI := (G.made _ (List.Mem.head _)).2
    have hLs := (G.made _ (List.mem_cons_of_mem _ hLm))
    refine fin D k ys.toList vs oL' _ hlen hPs hF ?_ HL'
    obtain ⟨h, t, rfl⟩ := G.same
    have hD0 : s₀.heap.get? D = none := by
      cases e : s₀.heap.get? D with
      | none => rfl
      | some o => have := G.grow _ _ e; rw [hnew] at this; cases this
    refine ⟨⟨_, _, rfl⟩, fun b o e => hk b o (fun q => by rw [q, hLs.2] at e; cases e) (fun q => by rw [List.mem_singleton.mp q, hI] at e; cases e) (G.grow _ _ e), G.st, G.known, fun q hq => ?_, ?_⟩
    · rcases List.mem_cons.mp hq with rfl | hq
      · exact ⟨by simpa using hD, hD0⟩
      · rcases (R oL').of_mem nd.2 q hq with rfl | ⟨hq, hne⟩
        · exact ⟨hoL', hLs.2⟩
        · exact ⟨hk _ _ hne (fun e => nd.1 (List.mem_map.mpr ⟨q, hq, List.mem_singleton.mp e⟩)) (G.made q (List.mem_cons_of_mem _ hq)).1, (G.made q (List.mem_cons_of_mem _ hq)).2⟩
    · rw [List.map_cons, (R oL').keys]
      refine List.nodup_cons.mpr ⟨fun hm => ?_, nd.2⟩
      obtain ⟨q, hq, e⟩ := List.mem_map.mp hm
      have := (G.made q (List.mem_cons_of_mem _ hq)).1
      rw [e, hnew] at this; cases this

-- the sources
theorem srcL {l : Addr} {vs : List Value} {k : Nat} {Q : Value → Shared → Prop} (G : Pur base s₀ s nw kn) (hh : A.handled = none) (hm : (l, lst vs k) ∈ nw ∨ (l, lst vs k) ∈ kn) (hz : vs.length ≤ sizeLine)
    (h : ∀ I s₂, Src prog w A base s₀ s nw kn vs.length (fun i v => vs[i]? = some v) I s₂ → Q (.ref I) s₂) : wpAny (model prog w) A (pyIter (.ref l)) Q E s := by
  have hl := G.list hm
  have hlt : l < s.heap.objs.size := by obtain ⟨_, e, _⟩ := hl; exact Heap.lt_size e
  have W : Walks prog w A s.heap.objs.size [s.heap.objs.size, l] [s.heap.objs.size] vs.length (fun i v => vs[i]? = some v) (fun i h => h.IsListIter s.heap.objs.size l i ∧ h.IsList l vs.toArray) := by
    simpa using Walks.list (prog := prog) (w := w) hh s.heap.objs.size l (Nat.ne_of_lt hlt) vs.toArray
  refine wpAny_pyIter_list hl (h _ _ ⟨⟨_, _, W, fun i h st b hb => ?_, ?_, fun b hb => ?_⟩, hz, fun b o e => Heap.get?_push_of_some _ e, Heap.get?_none_of_le (Nat.le_refl _), ⟨_, G.push rfl⟩⟩)
  · obtain ⟨o, ho, _⟩ := st.1
    rw [List.mem_singleton.mp hb]
    exact ⟨o, ho⟩
  · exact ⟨⟨_, Heap.get?_push_size _ rfl, rfl, rfl⟩, hl.push _⟩
  · show b < (s.heap.push _).objs.size
    rw [Heap.size_push]
    rcases List.mem_cons.mp hb with rfl | hb
    · exact Nat.lt_succ_self _
    · rw [List.mem_singleton.mp hb]; exact Nat.lt_succ_of_lt hlt
abbrev rng (n : Int) (t u v : Tok) : Obj := { cls := .type "range", data := .fields #[.int 0 t, .int n u, .int 1 v] }
theorem srcR {r : Addr} {n : Nat} {t u v : Tok} {Q : Value → Shared → Prop} (G : Pur base s₀ s nw kn) (hh : A.handled = none) (hm : (r, rng n t u v) ∈ nw ∨ (r, rng n t u v) ∈ kn) (hz : n ≤ sizeLine)
    (h : ∀ I s₂, Src prog w A base s₀ s nw kn n (fun i v => ∃ t, v = .int (i : Int) t) I s₂ → Q (.ref I) s₂) : wpAny (model prog w) A (pyIter (.ref r)) Q E s := by
  have hsz : Builtin.Range.rangeSize 0 (n : Int) 1 = (n : Int) - ((0 : Nat) : Int) := by rw [rangeSize_one]; split <;> omega
  have hsm : Builtin.Range.small 0 (n : Int) 1 = true := small_one (by omega) (by omega) (by omega) (by rw [sizeLine_eq] at hz; omega)
  have W := Walks.range (prog := prog) (w := w) hh s.heap.objs.size 0 1 n
  simp only [Int.zero_add, Int.mul_one] at W
  refine wpAny_pyIter_range (a := 0) (b := n) (c := 1) (G.get hm) hsm (h _ _ ⟨⟨_, _, W, fun i h st b hb => ?_, ?_, fun b hb => ?_⟩, hz, fun b o e => Heap.get?_push_of_some _ e, Heap.get?_none_of_le (Nat.le_refl _), ⟨_, G.push rfl⟩⟩)
  · rw [List.mem_singleton.mp hb]
    exact ⟨_, st⟩
  · rw [hsz]; exact Heap.get?_push_size _ rfl
  · show b < (s.heap.push _).objs.size
    rw [Heap.size_push, List.mem_singleton.mp hb]
    exact Nat.lt_succ_self _
end

-- lists of values that tell data
def IsI (n : Int) (v : Value) : Prop := ∃ t, v = .int n t
def IsB (b : Array UInt8) (v : Value) : Prop := ∃ t, v = .bytes b t
theorem ints_iff : ∀ {vs : List Value} {ns : List Int}, IntsAre vs ns ↔ Paired IsI ns vs := by
  intro vs
  induction vs with
  | nil => intro ns; exact ⟨fun h => by cases h; exact .nil, fun h => by cases h; exact .nil⟩
  | cons v r ih =>
    intro ns
    constructor
    · intro h; cases h with | cons n t h => exact .cons ⟨_, rfl⟩ (ih.mp h)
    · intro h
      cases h with
      | cons h1 h2 => obtain ⟨t, rfl⟩ := h1; exact .cons _ _ (ih.mpr h2)
theorem paired_get {α : Type} {R : α → Value → Prop} : ∀ {xs : List α} {vs : List Value}, Paired R xs vs → ∀ {i : Nat} {v : Value}, vs[i]? = some v → ∃ x, xs[i]? = some x ∧ R x v
  | _, _, .nil, i, v, h => by simp at h
  | _, _, .cons (a := a) (b := b) h1 h2, i, v, h => by
    cases i with
    | zero => simp at h; subst h; exact ⟨a, by simp, h1⟩
    | succ i => simp at h; obtain ⟨x, hx, hr⟩ := paired_get h2 h; exact ⟨x, by simpa using hx, hr⟩
theorem paired_getL {α : Type} {R : α → Value → Prop} : ∀ {xs : List α} {vs : List Value}, Paired R xs vs → ∀ {i : Nat} {x : α}, xs[i]? = some x → ∃ v, vs[i]? = some v ∧ R x v
  | _, _, .nil, i, v, h => by simp at h
  | _, _, .cons (a := a) (b := b) h1 h2, i, x, h => by
    cases i with
    | zero => simp at h; subst h; exact ⟨b, by simp, h1⟩
    | succ i => simp at h; obtain ⟨v, hx, hr⟩ := paired_getL h2 h; exact ⟨v, by simpa using hx, hr⟩
theorem paired_of_get {α : Type} {R : α → Value → Prop} : ∀ {xs : List α} {vs : List Value}, vs.length = xs.length → (∀ (j : Nat) (v : Value), vs[j]? = some v → ∃ x, xs[j]? = some x ∧ R x v) → Paired R xs vs
  | [], [], _, _ => .nil
  | [], _ :: _, h, _ => by simp at h
  | _ :: _, [], h, _ => by simp at h
  | x :: xs, v :: vs, h, hP => by
    obtain ⟨y, hy, hr⟩ := hP 0 v (by simp)
    simp at hy; subst hy
    refine .cons hr (paired_of_get (by simpa using h) fun j u hj => ?_)
    obtain ⟨y, hy, hr⟩ := hP (j + 1) u (by simpa using hj)
    exact ⟨y, by simpa using hy, hr⟩
theorem paired_filter {α β : Type} {R : α → Value → Prop} {S : β → Value → Prop} {F : Value → Value → Prop} {p : Value → Bool} {pz : α → Bool} {f : α → β} (hp : ∀ x v, R x v → p v = pz x) (hF : ∀ x v y, R x v → pz x = true → F v y → S (f x) y) :
    ∀ {xs : List α} {vs ys : List Value}, Paired R xs vs → Paired F (vs.filter p) ys → Paired S ((xs.filter pz).map f) ys
  | _, _, _, .nil, h => by cases h; exact .nil
  | _, _, _, .cons (a := x) (b := v) (l₁ := xs) (l₂ := vs) h1 h2, h => by
    cases e : pz x with
    | false =>
      rw [List.filter_cons_of_neg (by rw [hp x v h1, e]; exact Bool.false_ne_true)] at h
      rw [List.filter_cons_of_neg (by rw [e]; exact Bool.false_ne_true)]
      exact paired_filter hp hF h2 h
    | true =>
      rw [List.filter_cons_of_pos (by rw [hp x v h1, e])] at h
      rw [List.filter_cons_of_pos e]
      cases h with
      | cons k1 k2 => exact .cons (hF x v _ h1 e k1) (paired_filter hp hF h2 k2)

theorem walksBound {prog : Program} {w : World} {A : Around} {I : Addr} {fp wr : List Addr} {n : Nat} {P P' : Nat → Value → Prop} {St : Nat → Heap → Prop} (W : Walks prog w A I fp wr n P St) (hP : ∀ i v, i < n → P i v → P' i v) : Walks prog w A I fp wr n P' St where
  sub := W.sub
  frame := W.frame
  item := fun i s Q E hi st hQ => W.item i s Q E hi st fun v h' tk hv => hQ v h' tk (hP i v hi hv)
  done := W.done
  self := W.self
theorem Src.bound {prog : Program} {w : World} {A : Around} {base : Heap} {s₀ s₁ s₂ : Shared} {nw kn : List (Addr × Obj)} {n : Nat} {P P' : Nat → Value → Prop} {I : Addr} (S : Src prog w A base s₀ s₁ nw kn n P I s₂) (hP : ∀ i v, i < n → P i v → P' i v) : Src prog w A base s₀ s₁ nw kn n P' I s₂ := by
  obtain ⟨⟨fp, St, W, r⟩, a, b, c, d⟩ := S
  exact ⟨⟨fp, St, walksBound W hP, r⟩, a, b, c, d⟩

/-- a source of ints: a known list, or a known range -/
inductive ISrc (nw kn : List (Addr × Obj)) : Value → List Int → Prop
  | list {l : Addr} {vs : List Value} {k : Nat} {ns : List Int} : ((l, lst vs k) ∈ nw ∨ (l, lst vs k) ∈ kn) → IntsAre vs ns → vs.length ≤ sizeLine → ISrc nw kn (.ref l) ns
  | range {r : Addr} {n : Nat} {t u v : Tok} : ((r, rng (n : Int) t u v) ∈ nw ∨ (r, rng (n : Int) t u v) ∈ kn) → n ≤ sizeLine → ISrc nw kn (.ref r) ((List.range n).map fun (i : Nat) => (i : Int))

section
variable {prog : Program} {w : World} {A : Around} {E : Value → Shared → Prop} {base : Heap} {s₀ s : Shared} {nw kn : List (Addr × Obj)} {env : Env}
abbrev PI (ns : List Int) (i : Nat) (v : Value) : Prop := ∃ a, ns[i]? = some a ∧ IsI a v
theorem isrc {xv : Value} {ns : List Int} {Q : Value → Shared → Prop} (G : Pur base s₀ s nw kn) (hh : A.handled = none) (S : ISrc nw kn xv ns)
    (h : ∀ I s₂, Src prog w A base s₀ s nw kn ns.length (PI ns) I s₂ → Q (.ref I) s₂) : wpAny (model prog w) A (pyIter xv) Q E s := by
  cases S with
  | list hm hi hz =>
    refine srcL G hh hm hz fun I s₂ S => ?_
    have e := hi.length
    rw [e] at S
    exact h I s₂ (S.bound fun i v _ hv => paired_get (ints_iff.mp hi) hv)
  | range hm hz =>
    refine srcR G hh hm hz fun I s₂ S => h I s₂ ?_
    simp only [List.length_map, List.length_range]
    exact S.bound fun i v hi hv => ⟨(i : Int), by simp [hi], hv⟩

/-- what the test and the element of a comprehension over ints are to show -/
structure IOk (prog : Program) (w : World) (A : Around) (base : Heap) (kn : List (Addr × Obj)) (env : Env) (scope : Scope) (cl : List (Str × Addr)) (x : Str) (ifs : List Expr) (elt : Expr) (ns : List Int) (pz : Int → Bool) (S : Int → Value → Prop) (h₁ : Heap) : Prop where
  test : ∀ C oC a t s₃ m₃ E', a ∈ ns → NsO oC m₃ → m₃ x = some (.int a t) → Pur base s₃ s₃ [] ((C, oC) :: kn) → h₁.StaysIn s₃.heap → wpAny (model prog w) A (tst ifs (compEnvC scope cl C env)) (fun ok s₄ => ok = pz a ∧ Keeps s₃ s₄) E' s₃
  elt : ∀ C oC a t s₃ m₃ E', a ∈ ns → pz a = true → NsO oC m₃ → m₃ x = some (.int a t) → Pur base s₃ s₃ [] ((C, oC) :: kn) → h₁.StaysIn s₃.heap → wpAny (model prog w) A (eval elt (compEnvC scope cl C env)) (fun y s₄ => S a y ∧ Keeps s₃ s₄) E' s₃
def pI (pz : Int → Bool) (v : Value) : Bool := match v with | .int a _ => pz a | _ => false
def fI (S : Int → Value → Prop) (v y : Value) : Prop := ∀ a t, v = .int a t → S a y
theorem IOk.ok {scope : Scope} {cl : List (Str × Addr)} {x : Str} {ifs : List Expr} {elt : Expr} {ns : List Int} {pz : Int → Bool} {S : Int → Value → Prop} {h₁ : Heap} (O : IOk prog w A base kn env scope cl x ifs elt ns pz S h₁) :
    CompOk prog w A base kn env scope cl x ifs elt (PI ns) (pI pz) (fI S) h₁ where
  test := fun C oC i v s₃ m₃ E' hP HC hm G hk => by
    obtain ⟨a, ha, t, rfl⟩ := hP
    exact O.test C oC a t s₃ m₃ E' (List.mem_of_getElem? ha) HC hm G hk
  elt := fun C oC i v s₃ m₃ E' hP hp HC hm G hk => by
    obtain ⟨a, ha, t, rfl⟩ := hP
    exact wpAny_mono (O.elt C oC a t s₃ m₃ E' (List.mem_of_getElem? ha) hp HC hm G hk) (fun y s₄ h => ⟨fun b u e => by cases e; exact h.1, h.2⟩) fun _ _ e => e
theorem ifin {ns : List Int} {pz : Int → Bool} {S : Int → Value → Prop} {vs ys : List Value} (h1 : vs.length = ns.length) (h2 : ∀ (j : Nat) (v : Value), vs[j]? = some v → PI ns j v) (h3 : Paired (fI S) (vs.filter (pI pz)) ys) : Paired S (ns.filter pz) ys := by
  have := paired_filter (f := id) (pz := pz) (S := S) (fun x v hr => by obtain ⟨t, rfl⟩ := hr; rfl) (fun x v y hr _ hf => by obtain ⟨t, rfl⟩ := hr; exact hf x t rfl) (paired_of_get h1 h2) h3
  simpa using this

theorem compI {elt iter : Expr} {x : Str} {px : Pos} {ifs : List Expr} {scope : Scope} {cl : List (Str × Addr)} {pos : Pos} {Q : Value → Shared → Prop} (pz : Int → Bool) (S : Int → Value → Prop) (hh : A.handled = none)
    (hclos : closureFor scope env = pure cl) (hcell : ∀ y ∈ scope.names, y.2 ≠ .cell) (hkind : scope.kind = .function)
    (hnames : ∀ y ∈ scope.names, y.2 = .local → scope.names.lookup y.1 = some .local) (hx : scope.names.lookup x = some .local) (hs : ∀ x, foldedSetIterable iter env x = pure x)
    (h : wpAny (model prog w) A (eval iter env) (fun xv s₁ => ∃ nw ns, Pur base s₀ s₁ nw kn ∧ ISrc nw kn xv ns ∧ IOk prog w A base (nw ++ kn) env scope cl x ifs elt ns pz S s₁.heap ∧
      (∀ D k (ys : List Value) s', Paired S (ns.filter pz) ys → Pur base s₀ s' ((D, lst ys k) :: nw) kn → Q (.ref D) s')) E s) :
    wpAny (model prog w) A (eval (.ListComp elt [⟨.Name x px, iter, ifs, 0⟩] scope pos) env) Q E s := by
  refine compW (base := base) (s₀ := s₀) (kn := kn) (pI pz) (fI S) hclos hcell hkind hnames hx hs (wpAny_mono h (fun xv s₁ h₁ => ?_) fun _ _ e => e)
  obtain ⟨nw, ns, G, Sr, O, fin⟩ := h₁
  exact isrc G hh Sr fun I s₂ S => ⟨I, _, _, nw, rfl, S, O.ok, fun D k ys vs s' h1 h2 h3 G' => fin D k ys s' (ifin h1 h2 h3) G'⟩
theorem compIA {elt iter : Expr} {x y : Str} {px py : Pos} {ifs : List Expr} {scope : Scope} {cl : List (Str × Addr)} {pos spos : Pos} {Q : Flow → Shared → Prop} {m : Str → Option Value} {L : Addr} (pz : Int → Bool) (S : Int → Value → Prop) (hh : A.handled = none)
    (hsw : swapsWith (.ListComp elt [⟨.Name x px, iter, ifs, 0⟩] scope pos) (some (.Name y py)) spos.line env = pure true)
    (hclos : closureFor scope env = pure cl) (hcell : ∀ z ∈ scope.names, z.2 ≠ .cell) (hkind : scope.kind = .function)
    (hnames : ∀ z ∈ scope.names, z.2 = .local → scope.names.lookup z.1 = some .local) (hx : scope.names.lookup x = some .local)
    (hy : env.kindOf y = some .local) (hke : env.scope.kind = .function) (hs : ∀ x, foldedSetIterable iter env x = pure x) (hL : env.locals = L)
    (h : wpAny (model prog w) A (eval iter env) (fun xv s₁ => ∃ nw ns oL, ∃ g : Obj → List (Addr × Obj), Pur base s₀ s₁ nw kn ∧ ISrc nw kn xv ns ∧ IOk prog w A base (nw ++ kn) env scope cl x ifs elt ns pz S s₁.heap ∧
      NsO oL m ∧ (∀ o', Rep L oL o' nw (g o')) ∧
      (∀ D k (ys : List Value) o' s', Paired S (ns.filter pz) ys → Pur base s₀ s' ((D, lst ys k) :: g o') kn → NsO o' (fun z => if z = y then some (.ref D) else m z) → Q .next s')) E s) :
    wpAny (model prog w) A (exec (.Assign [.Name y py] (.ListComp elt [⟨.Name x px, iter, ifs, 0⟩] scope pos) spos) env) Q E s := by
  refine compWA (base := base) (s₀ := s₀) (kn := kn) (m := m) (pI pz) (fI S) hsw hclos hcell hkind hnames hx hy hke hs hL (wpAny_mono h (fun xv s₁ h₁ => ?_) fun _ _ e => e)
  obtain ⟨nw, ns, oL, g, G, Sr, O, H, R, fin⟩ := h₁
  exact isrc G hh Sr fun I s₂ S => ⟨I, _, _, nw, oL, g, rfl, S, O.ok, H, R, fun D k ys vs o' s' h1 h2 h3 G' H' => fin D k ys o' s' (ifin h1 h2 h3) G' H'⟩
end

section
variable {prog : Program} {w : World} {A : Around} {E : Value → Shared → Prop} {base : Heap} {s₀ s : Shared} {nw kn : List (Addr × Obj)} {env : Env} {l D I : Addr} {vs : List Value} {k : Nat} {Q : Value → Shared → Prop}

theorem lSlice {value : Expr} {lower upper : Option Expr} {p pos : Pos}
    (h : wpAny (model prog w) A (eval value env) (fun o s₁ => wpAny (model prog w) A (evalPart lower env) (fun vl s₂ => wpAny (model prog w) A (evalPart upper env) (fun vu s₃ =>
      ∃ l vs k lo hi nw, o = .ref l ∧ Pur base s₀ s₃ nw kn ∧ ((l, lst vs k) ∈ nw ∨ (l, lst vs k) ∈ kn) ∧ vs.length ≤ sizeLine ∧ IsPart vl lo ∧ IsPart vu hi ∧
        ∀ D s', Pur base s₀ s' ((D, lst (slicePick vs.toArray lo hi none).toList 0) :: nw) kn → Q (.ref D) s') E s₂) E s₁) E s)
    (hv : ∀ o r, letTemporaryGo value o r = pure ()) : wpAny (model prog w) A (eval (.Subscript value (.Slice lower upper none p) pos) env) Q E s := by
  refine wpAny_Subscript_list_slice (wpAny_mono h (fun o s₁ h₁ => wpAny_mono h₁ (fun vl s₂ h₂ => wpAny_mono h₂ (fun vu s₃ h₃ => ?_) fun _ _ e => e) fun _ _ e => e) fun _ _ e => e) hv
  obtain ⟨l, vs, k, lo, hi, nw, rfl, G, hm, hz, p1, p2, hQ⟩ := h₃
  refine ⟨l, vs.toArray, lo, hi, rfl, G.list hm, by simpa using hz, p1, p2, ?_⟩
  have G1 := Pur.push (o := { cls := .type "slice", data := .fields #[vl, vu, .none] }) G rfl
  have G2 := Pur.push (o := lst (slicePick vs.toArray lo hi none).toList 0) G1 rfl
  have := hQ _ _ (G2.sub (List.Sublist.cons_cons _ (List.sublist_cons_self _ _)) fun p hp => hp)
  simpa [Heap.size_push] using this
theorem evalPart_none {Q : Value → Shared → Prop} (h : Q .none s) : wpAny (model prog w) A (evalPart none env) Q E s := wpAny_pure h
theorem evalPart_some {e : Expr} {Q : Value → Shared → Prop} (h : wpAny (model prog w) A (eval e env) Q E s) : wpAny (model prog w) A (evalPart (some e) env) Q E s := h

theorem lSorted {ns : List Int} (G : Pur base s₀ s nw kn) (hm : (l, lst vs k) ∈ nw ∨ (l, lst vs k) ∈ kn) (hi : IntsAre vs ns) (hz : vs.length < 64)
    (h : ∀ D e (vs' : List Value) (ns' : List Int) s', Pur base s₀ s' ((D, lst vs' e) :: nw) kn → IntsAre vs' ns' → ns'.Perm ns → ns'.Pairwise (· ≤ ·) → Q (.ref D) s') : wpAny (model prog w) A (call (.builtin "sorted") [.ref l]) Q E s := by
  refine sorted_ints (G.list hm) hi hz fun out ns' a1 a2 a3 => ?_
  obtain ⟨e, he⟩ := sortedAll_at s.heap vs out
  refine h _ e out.toList ns' _ (Pur.new (s := s) G ⟨_, _, rfl, fun b o q => sortedAll_old q⟩ (Heap.get?_none_of_le (Nat.le_succ _)) ?_) a1 a2 a3
  rw [he]

/-- a list's iterator -/
structure LI (o : Obj) (l : Addr) (i : Nat) : Prop where
  cls : o.cls = .type "list_iterator"
  data : o.data = .fields #[.ref l, .int i 0]
theorem nItem {oI : Obj} {i : Nat} {v : Value} {Q : Option Value → Shared → Prop} (G : Pur base s₀ s nw kn) (g : Obj → List (Addr × Obj)) (hI : LI oI l i) (R : ∀ o', Rep I oI o' nw (g o')) (hm : (l, lst vs k) ∈ nw ∨ (l, lst vs k) ∈ kn) (hx : vs[i]? = some v)
    (h : ∀ o' s', LI o' l (i + 1) → Pur base s₀ s' (g o') kn → Q (some v) s') : wpAny (model prog w) A (pyNext (.ref I)) Q E s := by
  refine wpAny_pyNext_list_item ⟨oI, G.get (.inl (R oI).mem), hI.cls, hI.data⟩ (G.list hm) (by simpa using hx) fun h' hit hs => ?_
  obtain ⟨o', ho', hc, hd⟩ := hit
  exact h o' _ ⟨hc, hd⟩ (G.change (R o') ⟨_, _, rfl⟩ (fun b z hb e => hs.extBut b z hb e) ho')
theorem nEnd {oI : Obj} {i : Nat} {nw' : List (Addr × Obj)} {Q : Option Value → Shared → Prop} (G : Pur base s₀ s nw kn) (hh : A.handled = none) (hI : LI oI l i) (R : Del I oI nw nw') (hm : (l, lst vs k) ∈ nw ∨ (l, lst vs k) ∈ kn) (hx : vs.length ≤ i)
    (h : ∀ s', Pur base s₀ s' nw' kn → Q none s') : wpAny (model prog w) A (pyNext (.ref I)) Q E s := by
  refine wpAny_pyNext_list_end hh ⟨oI, G.get (.inl R.mem), hI.cls, hI.data⟩ (G.list hm) (by simpa using hx) fun h' hs => ?_
  exact h _ (G.forget R ⟨_, _, rfl⟩ fun b o hb e => hs b o hb e)
theorem lApp {x : Value} (G : Pur base s₀ s nw kn) (g : Obj → List (Addr × Obj)) (R : ∀ o', Rep D (lst vs k) o' nw (g o')) (hz : vs.length ≤ sizeLine)
    (h : ∀ k' s', Pur base s₀ s' (g (lst (vs ++ [x]) k')) kn → Q .none s') : wpAny (model prog w) A (call (.builtin "list.append") [.ref D, x]) Q E s := by
  refine wpAny_list_append_plain ⟨k, G.get (.inl (R (lst vs k)).mem)⟩ (fun h' hl hs => ?_) (by simpa using hz)
  obtain ⟨k', hl⟩ := hl
  exact h k' _ (G.change (R _) ⟨_, _, rfl⟩ (fun b z hb e => hs.extBut b z hb e) (by rw [hl]; simp))
theorem Pur.rebase (G : Pur base s₀ s nw kn) {kn' : List (Addr × Obj)} (h : ∀ p ∈ kn', p ∈ nw ∨ p ∈ kn) : Pur base s s [] kn' := Pur.start G.based fun p hp => G.get (h p hp)
theorem paired_snoc {F : Value → Value → Prop} {ys : List Value} {i : Nat} {v y : Value} (h : Paired F (vs.take i) ys) (hv : vs[i]? = some v) (hF : F v y) : Paired F (vs.take (i + 1)) (ys ++ [y]) := by
  rw [List.take_add_one, hv]
  exact Paired.snoc h hF

/-- a comprehension over a known list whose own name is closed over -/
theorem compCell {elt iter : Expr} {x : Str} {px : Pos} {scope : Scope} {cl : List (Str × Addr)} {pos : Pos} (F : Value → Value → Prop) (hh : A.handled = none)
    (hclos : closureFor scope env = pure cl) (hkind : scope.kind = .function) (hnames : ∀ y ∈ scope.names, y.2 = .local → scope.names.lookup y.1 = some .local)
    (hcf : ∀ n, cellsFrom n scope.names cl = (x, n) :: cl) (hpc : ∀ h, pushCells h scope.names = h.push { cls := .type "cell", data := .cell none }) (hx : (relabel scope env).names.lookup x = some .cell)
    (hs : ∀ x, foldedSetIterable iter env x = pure x)
    (h : wpAny (model prog w) A (eval iter env) (fun xv s₁ => ∃ l vs k nw, xv = .ref l ∧ Pur base s₀ s₁ nw kn ∧ ((l, lst vs k) ∈ nw ∨ (l, lst vs k) ∈ kn) ∧ vs.length ≤ sizeLine ∧
      (∀ c oc C v s₃ E', v ∈ vs → oc.data = .cell (some v) → Pur base s₃ s₃ [] ((c, oc) :: (nw ++ kn)) → Keeps s₁ s₃ → wpAny (model prog w) A (eval elt (compEnvC scope ((x, c) :: cl) C env)) (fun y s₄ => F v y ∧ Keeps s₃ s₄) E' s₃) ∧
      (∀ D k (ys : List Value) s', Paired F vs ys → Pur base s₀ s' ((D, lst ys k) :: nw) kn → Q (.ref D) s')) E s) :
    wpAny (model prog w) A (eval (.ListComp elt [⟨.Name x px, iter, [], 0⟩] scope pos) env) Q E s := by
  rw [eval_ListComp]
  refine wpAny_comprehension_free (use := none) rfl hs hclos hkind hnames (wpAny_mono h (fun xv s₁ h₁ => ?_) fun _ _ e => e)
  obtain ⟨l, vs, k, nw, rfl, G, hm, hz, elt_ok, fin⟩ := h₁
  refine wpAny_pyIter_list (G.list hm) ?_
  have hm' : (l, lst vs k) ∈ ([] : List (Addr × Obj)) ∨ (l, lst vs k) ∈ nw ++ kn := .inr (List.mem_append.mpr hm)
  have G0 : Pur base s₁ s₁ [] (nw ++ kn) := G.rebase fun p hp => List.mem_append.mp hp
  have G1 := Pur.push (o := { cls := .type "list_iterator", data := .fields #[.ref l, .int 0 0] }) G0 rfl
  refine wpAny_newObj_type ?_
  have G2 := Pur.push (o := lst [] 0) G1 rfl
  simp only [newFunctionEnv, Option.isSome_some, if_true]
  refine wpAny_bind (wpAny_alloc ?_)
  have G3 := Pur.push (o := { cls := .type "dict", data := .dict #[] }) G2 rfl
  refine wpAny_bind (wpAny_layCells _ (fun name kind cells => by cases hkc : kind == NameKind.cell <;> simp) _ _ _ _ ?_)
  have G4 := Pur.push (o := { cls := .type "cell", data := .cell none }) G3 rfl
  rw [hcf, hpc]
  refine wpAny_bind ?_
  rw [List.forIn_nil]
  refine wpAny_pure (wpAny_pure ?_)
  clear G1 G2 G3
  dsimp only at G4 ⊢
  have HC : NsO ({ cls := .type "dict", data := .dict #[] } : Obj) (fun _ => none) := by
    obtain ⟨o, es, ep, ho, hd, r⟩ := Heap.Ns.new s₁.heap (.type "dict")
    rw [Heap.get?_push_size _ rfl] at ho
    cases ho
    exact ⟨es, ep, hd, r⟩
  generalize ({ cls := .type "dict", data := .dict #[] } : Obj) = oC at G4 HC ⊢
  generalize s₁.heap.objs.size = I at G4 ⊢
  generalize (s₁.heap.push { cls := .type "list_iterator", data := .fields #[.ref l, .int 0 0] }).objs.size = D at G4 ⊢
  generalize ((s₁.heap.push { cls := .type "list_iterator", data := .fields #[.ref l, .int 0 0] }).push (lst [] 0)).objs.size = C at G4 ⊢
  generalize (((s₁.heap.push { cls := .type "list_iterator", data := .fields #[.ref l, .int 0 0] }).push (lst [] 0)).push oC).objs.size = c at G4 ⊢
  generalize ((((s₁.heap.push { cls := .type "list_iterator", data := .fields #[.ref l, .int 0 0] }).push (lst [] 0)).push oC).push { cls := .type "cell", data := .cell none }) = H at G4 ⊢
  generalize hs4 : ({ s₁ with heap := H } : Shared) = s₄ at G4
  clear hs4 H
  have loop : codeAny (model prog w) A (.compLoop (.ListComp elt [⟨.Name x px, iter, [], 0⟩] scope pos) 0 (.ref I) (.ref D) (compEnvC scope ((x, c) :: cl) C env)) (compPost (model prog w) A E none Q (.ref D) C) s₄ := by
    refine codeAny_compLoop_tests (fun n s' => ∃ i ys k' oI oc v₀, n = vs.length + 1 - i ∧ i ≤ vs.length ∧ LI oI l i ∧ oc.data = .cell v₀ ∧ Paired F (vs.take i) ys ∧ Pur base s₁ s' [(c, oc), (C, oC), (D, lst ys k'), (I, oI)] (nw ++ kn)) ?_ (vs.length + 1) ⟨0, [], 0, _, _, none, rfl, Nat.zero_le _, ⟨rfl, rfl⟩, rfl, .nil, G4⟩
    rintro n s' ⟨i, ys, k', oI, oc, v₀, rfl, hi, hLI, hoc, hP, G'⟩
    have hys : ys.length = i := by have := hP.length; rw [List.length_take] at this; omega
    by_cases hlt : i < vs.length
    · refine nItem (v := vs[i]) G' (fun o' => [(c, oc), (C, oC), (D, lst ys k'), (I, o')]) hLI (fun o' => .tail (.tail (.tail .head))) (.inr (List.mem_append.mpr hm)) (by simp [hlt]) fun oI' s'' hLI' G'' => ?_
      refine wpAny_assign_Name (sCell (o := oc) (c := c) (v₀ := v₀) G'' hkind hx (by simp [compEnvC]) (.head _) hoc (fun o' => [(c, o'), (C, oC), (D, lst ys k'), (I, oI')]) (fun o' => .head) fun oc' s3 G3 hoc' => ?_)
      refine wpAny_tests_nil ?_
      simp only [if_true]
      refine wpAny_mono (elt_ok c oc' C vs[i] s3 _ (List.getElem_mem hlt) hoc' (G3.rebase fun p hp => ?_) G3.keeps) (fun y s4 h4 => ?_) fun _ _ e => e
      · rcases List.mem_cons.mp hp with rfl | hp
        · exact .inl (.head _)
        · exact .inr hp
      · refine lApp (G3.mono h4.2) (fun o' => [(c, oc'), (C, oC), (D, o'), (I, oI')]) (fun o' => .tail (.tail .head)) (by omega) fun k2 s5 G5 => ?_
        exact ⟨vs.length + 1 - (i + 1), by omega, i + 1, ys ++ [y], k2, oI', oc', _, rfl, hlt, hLI', hoc', paired_snoc hP (by simp [hlt]) h4.1, G5⟩
    · obtain rfl : i = vs.length := by omega
      refine nEnd G' hh hLI (.tail (.tail (.tail .head))) (.inr (List.mem_append.mpr hm)) (Nat.le_refl _) fun s2 G2 => ?_
      refine ⟨_, HC.ns (G2.get (.inl (.tail _ (.head _)))), fun h' hs' => ?_⟩
      have G3 := G2.forget (s' := { s2 with heap := h' }) (.tail .head) ⟨_, _, rfl⟩ fun b z hb e => hs'.extBut b z hb e
      have G4 := G.trans (G3.sub (nw' := [(D, lst ys k')]) (List.sublist_cons_self _ _) fun p hp => hp)
      exact fin D k' ys _ (by simpa using hP) G4
  exact codeAny_compStart_list loop (wpAny_pyIter_listiter (l := l) (i := 0) ⟨_, G4.get (.inl (.tail _ (.tail _ (.tail _ (.head _))))), rfl, rfl⟩ loop)
end
section
variable {prog : Program} {w : World} {A : Around} {E : Value → Shared → Prop} {base : Heap} {s₀ s : Shared} {nw kn : List (Addr × Obj)} {env : Env} {l D I : Addr} {vs : List Value} {k : Nat} {Q : Value → Shared → Prop}
theorem lBytes {ns : List Int} (G : Pur base s₀ s nw kn) (hh : A.handled = none) (hm : (l, lst vs k) ∈ nw ∨ (l, lst vs k) ∈ kn) (hi : IntsAre vs ns) (hr : ∀ n ∈ ns, 0 ≤ n ∧ n < 256) (hz : vs.length ≤ sizeLine)
    (h : ∀ t s', Pur base s₀ s' nw kn → Q (.bytes (byteArr ns) t) s') : wpAny (model prog w) A (call (.type "bytes") [.ref l]) Q E s :=
  call_bytes_ints (G.list hm) hi hr hz hh fun h' t k hk => h t _ (G.heap hk)
theorem lNotIn {ns : List Int} {a : Int} {t : Tok} (G : Pur base s₀ s nw kn) (hm : (l, lst vs k) ∈ nw ∨ (l, lst vs k) ∈ kn) (hi : IntsAre vs ns) (h : Q (.bool (!(ns.any fun x => x == a))) s) :
    wpAny (model prog w) A (compareOp .NotIn (.int a t) (.ref l)) Q E s := notin_list_ints (G.list hm) hi h
end
theorem paired_map {α β : Type} {R : β → Value → Prop} {f : α → β} : ∀ {xs : List α} {ys : List Value}, Paired (fun x y => R (f x) y) xs ys → Paired R (xs.map f) ys
  | _, _, .nil => .nil
  | _, _, .cons h t => .cons h (paired_map t)
theorem paired_len {α : Type} {R : α → Value → Prop} {xs : List α} {ys : List Value} (h : Paired R xs ys) : ys.length = xs.length := h.length.symm
theorem ints_at {vs : List Value} {ns : List Int} (hi : IntsAre vs ns) {a : Int} (h0 : 0 ≤ a) (h1 : a < (ns.length : Int)) : ∃ t, vs[a.toNat]? = some (.int (ns.getD a.toNat 0) t) := by
  have hlt : a.toNat < ns.length := by omega
  obtain ⟨v, hv, t, rfl⟩ := paired_getL (ints_iff.mp hi) (i := a.toNat) (x := ns[a.toNat]) (by simp [hlt])
  exact ⟨t, by rw [hv]; simp [hlt]⟩
theorem paired_app {α : Type} {R : α → Value → Prop} : ∀ {xs xs' : List α} {ys ys' : List Value}, Paired R xs ys → Paired R xs' ys' → Paired R (xs ++ xs') (ys ++ ys')
  | _, _, _, _, .nil, h => h
  | _, _, _, _, .cons h t, h' => .cons h (paired_app t h')
theorem ints_snoc {vs : List Value} {ns : List Int} (h : IntsAre vs ns) (a : Int) (t : Tok) : IntsAre (vs ++ [.int a t]) (ns ++ [a]) := ints_iff.mpr (paired_app (ints_iff.mp h) (.cons ⟨t, rfl⟩ .nil))

def rawOf (ns : List Int) (many : Nat) (other : Int) : List Int := (ns.filter fun x => x.fmod 3 != other).map fun x => (x.fdiv 3).fmod (256 ^ many)
def upto (n : Nat) : List Int := (List.range n).map fun (i : Nat) => (i : Int)
def dedOf (raw : List Int) : List Int := ((upto raw.length).filter fun a => !((raw.take a.toNat).any fun x => x == raw.getD a.toNat 0)).map fun a => raw.getD a.toNat 0
def digOf (many : Nat) (v : Int) : List Int := (upto many).map fun a => (v.fdiv (256 ^ (((many : Int) - 1 - a).toNat))).fmod 256
def rowOf (many : Nat) (v : Int) : Array UInt8 := byteArr (digOf many v)
theorem upto_mem {n : Nat} {a : Int} (h : a ∈ upto n) : 0 ≤ a ∧ a < (n : Int) := by
  obtain ⟨i, hi, rfl⟩ := List.mem_map.mp h
  have := List.mem_range.mp hi
  omega
theorem pow256_small {n : Nat} (h : n ≤ 3) : ((256 : Int) ^ n).natAbs < 1073741824 ∧ (256 : Int) ^ n ≠ 0 := by
  match n, h with
  | 0, _ | 1, _ | 2, _ | 3, _ => decide
theorem digOf_range {many : Nat} {v x : Int} (h : x ∈ digOf many v) : 0 ≤ x ∧ x < 256 := by
  obtain ⟨a, _, rfl⟩ := List.mem_map.mp h
  exact ⟨Int.fmod_nonneg_of_pos _ (by decide), Int.fmod_lt_of_pos _ (by decide)⟩

section
variable {prog : Program} {w : World} {A : Around} {E : Value → Shared → Prop} {base : Heap} {s : Shared} {Q : Value → Shared → Prop}
set_option maxHeartbeats 4000000 in
theorem c_shelf {l : Addr} {vs : List Value} {k : Nat} {ns : List Int} {many : Nat} {other : Int} {tm to_ : Tok} (C : Cx base w A s.heap 3) (hl : s.heap.get? l = some (lst vs k)) (hi : IntsAre vs ns) (hz : ns.length ≤ 20) (hm1 : 1 ≤ many) (hm4 : many ≤ 4)
    (h : ∀ T V R kV kR (vv rv : List Value) (vals : List Int) s', Pur base s s' [(T, tup [.ref V, .ref R] 0), (R, lst rv kR), (V, lst vv kV)] [] → IntsAre vv vals → Paired IsB (vals.map (rowOf many)) rv → vals.Perm (dedOf (rawOf ns many other)) → vals.Pairwise (· ≤ ·) → Q (.ref T) s') :
    wpAny (model prog w) A (call (.ref 77) [.ref l, .int (many : Int) tm, .int other to_]) Q E s := by
  refine callPC (n := 2) (binds := [(Str.ofString "numbers", .ref l), (Str.ofString "many", .int (many : Int) tm), (Str.ofString "other", .int other to_)]) (kn := [(l, lst vs k)]) C rfl rfl (BindsTo.of_eq rfl) rfl (by decide +kernel) rfl rfl rfl (fun p hp => by rw [List.mem_singleton.mp hp]; exact hl) fun A' L oL s₁ cells G Y H D => ?_
  obtain ⟨o1, o2, o3, rfl, d1, d2, d3⟩ := CellsAre.three Y
  clear Y
  replace d1 : o1.data = .cell none := d1
  replace d2 : o2.data = .cell (some (.int other to_)) := d2
  replace d3 : o3.data = .cell (some (.int (many : Int) tm)) := d3
  have hz64 : ns.length ≤ sizeLine := by rw [sizeLine_eq]; omega
  have U := D.wd
  have hh := D.hh
  have hraw : (rawOf ns many other).length ≤ 20 := by
    unfold rawOf
    rw [List.length_map]
    exact Nat.le_trans (List.length_filter_le _ _) hz
  have hp0 : (256 : Int) ^ (many : Int).toNat ≠ 0 := by
    have : (0 : Int) < 256 ^ (many : Int).toNat := Int.pow_pos (by decide)
    omega
  -- values = [x // 3 % 256 ** many for x in numbers if x % 3 != other]
  refine seq (fun s' => ∃ V kV vv o1', Pur base s s' [(V, lst vv kV), (L + 1 + 1 + 1, o1'), (L + 1 + 1, o2), (L + 1, o3), (L, oL)] [(l, lst vs k)] ∧ o1'.data = .cell (some (.ref V)) ∧ IntsAre vv (rawOf ns many other)) ?_ ?_
  · refine wpAny_Assign_Name ?_
    refine compI (base := base) (s₀ := s) (kn := [(l, lst vs k)]) (fun x => x.fmod 3 != other) (fun x y => IsI ((x.fdiv 3).fmod (256 ^ many)) y) hh (by with_unfolding_all rfl) (by decide) rfl (by decide) rfl (by intro _; rfl) ?_
    walk_at "m_e"
    refine ⟨_, ns, G, .list (by walk_at "m_kn") hi (by rw [hi.length]; exact hz64), ⟨?_, ?_⟩, ?_⟩
    · intro C oC a t s₃ m₃ E' ha HC hm G3 hk
      refine tst_one ?_
      iterate 8 walk_at "m_e"
      exact ⟨rfl, Pur.keeps (by assumption)⟩
    · intro C oC a t s₃ m₃ E' ha hp HC hm G3 hk
      iterate 4 walk_at "m_e"
      refine iDiv (by assumption) (by decide) (by decide) fun t1 s4 G4 => ?_
      iterate 3 walk_at "m_e"
      refine iPow (by assumption) (by omega) (by omega) (by decide) fun t2 s5 G5 => ?_
      refine iMod G5 hp0 fun t3 s6 G6 => ?_
      exact ⟨⟨t3, rfl⟩, G6.keeps⟩
    · intro V kV vv s' hP G'
      refine sCell (v₀ := none) (o := o1) (c := L + 1 + 1 + 1) G' rfl rfl rfl (.tail _ (.head _)) d1 (fun o' => [(V, lst vv kV), (L + 1 + 1 + 1, o'), (L + 1 + 1, o2), (L + 1, o3), (L, oL)]) (fun o' => .tail .head) fun o1' s'' G'' d1' => ?_
      exact ⟨rfl, V, kV, vv, o1', G'', d1', ints_iff.mpr (paired_map hP)⟩
  rintro s2 ⟨V, kV, vv, o1', G2, d1', hvv⟩
  have hvl : vv.length = (rawOf ns many other).length := hvv.length
  -- values = sorted([values[k] for k in range(len(values)) if values[k] not in values[:k]])
  refine seq (fun s' => ∃ V kV vv, ∃ vals : List Int, ∃ o1', Pur base s s' [(V, lst vv kV), (L + 1 + 1 + 1, o1'), (L + 1 + 1, o2), (L + 1, o3), (L, oL)] [(l, lst vs k)] ∧ o1'.data = .cell (some (.ref V)) ∧ IntsAre vv vals ∧ vals.Perm (dedOf (rawOf ns many other)) ∧ vals.Pairwise (· ≤ ·)) ?_ ?_
  · refine wpAny_Assign_Name ?_
    iterate 4 walk_at "m_e"
    refine compI (base := base) (s₀ := s) (kn := [(l, lst vs k)]) (fun a => !(((rawOf ns many other).take a.toNat).any fun x => x == (rawOf ns many other).getD a.toNat 0)) (fun a y => IsI ((rawOf ns many other).getD a.toNat 0) y) hh (by with_unfolding_all rfl) (by decide) rfl (by decide) rfl (by intro _; rfl) ?_
    iterate 10 walk_at "m_e"
    refine lLen (by assumption) (by walk_at "m_kn") (by omega) fun t1 s3 G3 => ?_
    walk_at "m_e"
    refine lRange G3 fun r t2 t3 s4 G4 => ?_
    refine ⟨_, _, G4, .range (by walk_at "m_kn") (by rw [sizeLine_eq]; omega), ⟨?_, ?_⟩, ?_⟩
    · intro C oC a t s₃ m₃ E' ha HC hm G5 hk
      obtain ⟨ha0, ha1⟩ := upto_mem ha
      refine tst_one ?_
      iterate 4 walk_at "m_e"
      obtain ⟨tv, hv⟩ := ints_at hvv ha0 (by omega)
      refine lItem (by assumption) (by walk_at "m_kn") ha0 (by omega) hv (by with_unfolding_all rfl) ?_
      refine' lSlice (base := base) (s₀ := s₃) ?_ (by intro _ _; rfl)
      walk_at "m_e"
      refine evalPart_none ?_
      refine evalPart_some ?_
      walk_at "m_e"
      refine ⟨_, vv, _, none, some a, _, rfl, by assumption, by walk_at "m_kn", by rw [sizeLine_eq]; omega, .none, .int _ _, fun D' s6 G6 => ?_⟩
      refine lNotIn G6 (by walk_at "m_kn") (slice_ints_uptoW hvv ha0) ?_
      walk_at "m_e"
      exact ⟨rfl, G6.keeps⟩
    · intro C oC a t s₃ m₃ E' ha hp HC hm G5 hk
      obtain ⟨ha0, ha1⟩ := upto_mem ha
      obtain ⟨tv, hv⟩ := ints_at hvv ha0 (by omega)
      iterate 3 walk_at "m_e"
      refine lItem (by assumption) (by walk_at "m_kn") ha0 (by omega) hv (by with_unfolding_all rfl) ?_
      exact ⟨⟨tv, rfl⟩, G5.keeps⟩
    · intro V2 kV2 vv2 s5 hP G5
      walk_at "m_e"
      have hP2 := ints_iff.mpr (paired_map (f := fun a : Int => (rawOf ns many other).getD a.toNat 0) hP)
      rw [hvl] at hP2
      have hlen2 : vv2.length ≤ 20 := by
        rw [hP2.length, List.length_map]
        refine Nat.le_trans (List.length_filter_le _ _) ?_
        rw [List.length_map, List.length_range]
        exact hraw
      refine lSorted G5 (by walk_at "m_kn") hP2 (by omega) fun V3 e3 vv3 vals s6 G6 hi3 hperm hsort => ?_
      walk_at "m_sC"
      intro o1'' s7 G7 d1''
      refine ⟨rfl, V3, e3, vv3, vals, o1'', G7.sub ?_ (fun p hp => hp), d1'', hi3, hperm, hsort⟩
      walk_at "m_sub"
  rintro s8 ⟨V, kV, vv, vals, o1', G8, d1', hvv, hperm, hsort⟩
  have hlen : vals.length ≤ 20 := by
    rw [hperm.length_eq]
    unfold dedOf
    rw [List.length_map]
    refine Nat.le_trans (List.length_filter_le _ _) ?_
    rw [upto, List.length_map, List.length_range]
    exact hraw
  -- return (values, [bytes([value // 256 ** (many - 1 - k) % 256 for k in range(many)]) for value in values])
  refine seqRet (Tuple_ ?_)
  iterate 3 walk_at "m_e"
  refine compCell (base := base) (s₀ := s) (kn := [(l, lst vs k)]) (fun v y => ∀ a t, v = .int a t → IsB (rowOf many a) y) hh (by with_unfolding_all rfl) rfl (by decide) (by intro n; rfl) (by intro h; rfl) rfl (by intro _; rfl) ?_
  walk_at "m_e"
  refine ⟨_, vv, kV, _, rfl, G8, by walk_at "m_kn", by rw [sizeLine_eq, hvv.length]; omega, ?_, ?_⟩
  · intro c oc C v s3 E' hv hoc G3 hk3
    obtain ⟨i, hi⟩ := List.getElem?_of_mem hv
    obtain ⟨a, ha, ta, rfl⟩ := paired_get (ints_iff.mp hvv) hi
    iterate 4 walk_at "m_e"
    refine' compI (base := base) (s₀ := s3) (fun _ => true) (fun b y => IsI ((a.fdiv (256 ^ (((many : Int) - 1 - b).toNat))).fmod 256) y) hh (by with_unfolding_all rfl) (by decide) rfl (by decide) rfl (by intro _; rfl) ?_
    iterate 6 walk_at "m_e"
    refine lRange (by assumption) fun r t2 t3 s4 G4 => ?_
    refine ⟨_, _, G4, .range (by walk_at "m_kn") (by rw [sizeLine_eq]; omega), ⟨?_, ?_⟩, ?_⟩
    · intro C oC b t s₃ m₃ E' hb HC hm G5 hk
      exact tst_nil (p := fun _ => true) (v := .none) rfl
    · intro C2 oC b t s5 m₃ E' hb hp HC hm G5 hk
      obtain ⟨hb0, hb1⟩ := upto_mem hb
      obtain ⟨hs1, hs2⟩ := pow256_small (n := ((many : Int) - 1 - b).toNat) (by omega)
      iterate 12 walk_at "m_e"
      refine iPow (by assumption) (by omega) (by omega) (by decide) fun t2 s6 G6 => ?_
      refine iDiv G6 hs2 hs1 fun t3 s7 G7 => ?_
      iterate 2 walk_at "m_e"
      exact ⟨⟨_, rfl⟩, Pur.keeps (by assumption)⟩
    · intro B kB bs s5 hP G5
      walk_at "m_e"
      have hP2 := ints_iff.mpr (paired_map (f := fun b : Int => (a.fdiv (256 ^ (((many : Int) - 1 - b).toNat))).fmod 256) hP)
      rw [List.filter_eq_self.mpr (fun _ _ => rfl)] at hP2
      refine lBytes G5 hh (by walk_at "m_kn") hP2 (fun n hn => digOf_range (many := many) (v := a) hn) (by rw [sizeLine_eq, hP2.length]; simp; omega) fun t6 s6 G6 => ?_
      exact ⟨fun a' t' e => by cases e; exact ⟨_, rfl⟩, G6.keeps⟩
  · intro R kR rv s9 hP G9
    walk_at "m_e"
    refine tNew G9 (by rw [sizeLine_eq]; simp) fun T s10 G10 => ?_
    have hP2 := paired_filter (F := fun v y => ∀ a t, v = .int a t → IsB (rowOf many a) y) (pz := fun _ => true) (p := fun _ => true) (f := rowOf many) (S := IsB) (fun _ _ _ => rfl) (fun x v y hr _ hf => by obtain ⟨t, rfl⟩ := hr; exact hf x t rfl) (ints_iff.mp hvv) (ys := rv) (by rw [List.filter_eq_self.mpr (fun _ _ => rfl)]; exact hP)
    refine h T V R kV kR vv rv vals s10 (G10.sub ?_ (fun p hp => nomatch hp)) hvv (by rw [List.filter_eq_self.mpr (fun _ _ => rfl)] at hP2; exact hP2) hperm hsort
    walk_at "m_sub"
end

section
variable {M : Model} {prog : Program} {w : World} {A : Around} {E : Value → Shared → Prop} {base : Heap} {s₀ s : Shared} {nw kn : List (Addr × Obj)} {env : Env} {Q : Value → Shared → Prop}
theorem whileP {test : Expr} {body : List Stmt} {pos : Pos} {Post : Shared → Prop} (I : Nat → Shared → Prop)
    (turn : ∀ n s, I n s → wpAny (model prog w) A (isTrue test env (eval test env)) (fun b s₂ => if b = true then wpAny (model prog w) A (execs body env) (fun f s₃ => f = .next ∧ ∃ m, m < n ∧ I m s₃) (fun _ _ => False) s₂ else Post s₂) (fun _ _ => False) s)
    (n : Nat) (h : I n s) : wpAny (model prog w) A (exec (.While test body [] pos) env) (fun f s' => f = .next ∧ Post s') E s := by
  refine wpAny_While (codeAny_whileLoop I (fun n s hI => wpAny_mono (turn n s hI) (fun b s₂ h₂ => ?_) fun _ _ x => x.elim) n h)
  cases b with
  | true => exact wpAny_mono h₂ (fun f s₃ h₃ => by obtain ⟨rfl, h₃⟩ := h₃; exact h₃) fun _ _ x => x.elim
  | false => exact wpAny_execs_nil ⟨rfl, h₂⟩
theorem forP {target iter : Expr} {body : List Stmt} {pos : Pos} {Post : Shared → Prop}
    (h : wpAny (model prog w) A (eval iter env) (fun x s₁ => wpAny (model prog w) A (pyIter x) (fun it s₂ => ∃ (I : Nat → Shared → Prop) (n : Nat), I n s₂ ∧ (∀ v, letOwnedTupleGo target it v = pure ()) ∧
      ∀ n s, I n s → wpAny (model prog w) A (pyNext it) (fun r s₁ => match r with
        | none => Post s₁
        | some v => wpAny (model prog w) A (assign target env v) (fun _ s₂ => wpAny (model prog w) A (execs body env) (fun f s₃ => f = .next ∧ ∃ m, m < n ∧ I m s₃) (fun _ _ => False) s₂) (fun _ _ => False) s₁) (fun _ _ => False) s) E s₁) E s)
    (hs : ∀ x, foldedSetIterable iter env x = pure x) : wpAny (model prog w) A (exec (.For target iter body [] pos) env) (fun f s' => f = .next ∧ Post s') E s := by
  refine wpAny_For (wpAny_mono h (fun x s₁ h₁ => wpAny_mono h₁ (fun it s₂ h₂ => ?_) fun _ _ e => e) fun _ _ e => e) hs
  obtain ⟨I, n, hI, ht, turn⟩ := h₂
  refine codeAny_forLoop I (fun n s hI => wpAny_mono (turn n s hI) (fun r s₁ h₁ => ?_) fun _ _ x => x.elim) n hI ht
  cases r with
  | none => exact wpAny_execs_nil ⟨rfl, h₁⟩
  | some v => exact wpAny_mono h₁ (fun _ s₂ h₂ => wpAny_mono h₂ (fun f s₃ h₃ => by obtain ⟨rfl, h₃⟩ := h₃; exact h₃) fun _ _ x => x.elim) fun _ _ x => x.elim

theorem c_buffer {b : Array UInt8} {t : Tok} (C : Cx base w A s.heap 1) (h : ∀ s', Keeps s s' → Q (.bytes b t) s') : wpAny (model prog w) A (call (.ref 35) [.bytes b t]) Q E s := by
  refine callP (n := 0) (binds := [(Str.ofString "data", .bytes b t)]) (kn := []) C rfl rfl (BindsTo.of_eq rfl) rfl (by decide) rfl rfl rfl (fun _ h => nomatch h) fun A' L oL s₁ G H D => ?_
  have U := D.wd
  refine seq (fun s' => ∃ oL m, Pur base s s' [(L, oL)] [] ∧ NsO oL m ∧ m (Str.ofString "t") = some (.type "bytes") ∧ m (Str.ofString "data") = some (.bytes b t)) ?_ ?_
  · refine wpAny_Assign_Name ?_
    iterate 6 walk_at "m_e"
    refine call_type_of (typeIs_bytes _ _ _) (by decide) ?_
    walk_at "m_sL"
    intro o' s' G' H'
    exact ⟨rfl, o', _, G', H', rfl, rfl⟩
  rintro s2 ⟨oL, m, G2, H2, e1, e2⟩
  refine wpAny_execs_cons (wpAny_If ?_)
  iterate 3 walk_at "m_e"
  refine wpAny_is_self (by decide) ?_
  walk_at "m_e"
  rw [if_pos rfl]
  refine seqRet ?_
  walk_at "m_e"
  exact h _ G2.keeps
theorem c_truth (C : Cx base w A s.heap 1) (h : ∀ s', Keeps s s' → Q (.bool false) s') : wpAny (model prog w) A (call (.ref 42) [.bool false]) Q E s := by
  refine callP (n := 0) (binds := [(Str.ofString "x", .bool false)]) (kn := []) C rfl rfl (BindsTo.of_eq rfl) rfl (by decide) rfl rfl rfl (fun _ h => nomatch h) fun A' L oL s₁ G H D => ?_
  have U := D.wd
  refine seq (fun s' => ∃ oL m, Pur base s s' [(L, oL)] [] ∧ NsO oL m ∧ m (Str.ofString "t") = some (.type "bool") ∧ m (Str.ofString "x") = some (.bool false)) ?_ ?_
  · refine wpAny_Assign_Name ?_
    iterate 6 walk_at "m_e"
    refine call_type_of (Tx := "bool") rfl (by decide) ?_
    walk_at "m_sL"
    intro o' s' G' H'
    exact ⟨rfl, o', _, G', H', rfl, rfl⟩
  rintro s2 ⟨oL, m, G2, H2, e1, e2⟩
  refine wpAny_execs_cons (wpAny_If ?_)
  refine wpAny_isTrue_BoolOp (wpAny_allTrue_Or_cons ?_)
  iterate 2 walk_at "m_e"
  refine wpAny_Constant_none ?_
  refine is_none ?_
  walk_at "m_e"
  rw [if_neg (by decide)]
  refine wpAny_allTrue_Or_cons ?_
  iterate 3 walk_at "m_e"
  refine wpAny_is_self (by decide) ?_
  walk_at "m_e"
  rw [if_pos rfl, if_pos rfl]
  refine seqRet (wpAny_IfExp ?_)
  refine PyProof.Rows.isTrue_plain ?_
  iterate 2 walk_at "m_e"
  rw [if_neg (by decide)]
  refine wpAny_Constant_bool ?_
  exact h _ G2.keeps
end

-- plain laws: sixes of bits
theorem bitAnd_low : ∀ (k : Nat) (x b : Int), x % 2 ^ k = 0 → 0 ≤ b → b < 2 ^ k → Builtin.bitAnd x b = 0 := by
  intro k
  induction k with
  | zero =>
    intro x b _ h0 h1
    have : b = 0 := by simp at h1; omega
    subst this
    rw [bitAnd_comm]
    have := bitAnd_range x (y := 0) (by decide)
    rw [bitAnd_comm] at this
    omega
  | succ k ih =>
    intro x b hx h0 h1
    rw [kbt_halves]
    have e : (2 : Int) ^ (k + 1) = 2 * 2 ^ k := by rw [Int.pow_succ]; omega
    rw [e] at hx h1
    have h2 : x % 2 = 0 := by
      have := Int.emod_emod_of_dvd x (show (2 : Int) ∣ 2 * 2 ^ k from Int.dvd_mul_right ..)
      rw [hx] at this; simpa using this.symm
    have h3 : (x / 2) % 2 ^ k = 0 := by
      have : x = 2 * (x / 2) := by omega
      rw [this, Int.mul_emod_mul_of_pos _ _ (by decide)] at hx
      omega
    rw [ih (x / 2) (b / 2) h3 (by omega) (by omega), if_neg (by omega)]
    rfl
theorem bitOr_low {k : Nat} {x b : Int} (hx : x % 2 ^ k = 0) (h0 : 0 ≤ b) (h1 : b < 2 ^ k) : Builtin.bitOr x b = x + b := by
  rw [bitOr_and, bitAnd_low k x b hx h0 h1]; omega
def val64 (ps : List Int) : Int := ps.foldl (fun a p => a * 64 + p) 0
def val256 (bs : List Int) : Int := bs.foldl (fun a b => a * 256 + b) 0
theorem val64_snoc (ps : List Int) (p : Int) : val64 (ps ++ [p]) = val64 ps * 64 + p := by simp [val64]
theorem val256_snoc (ps : List Int) (p : Int) : val256 (ps ++ [p]) = val256 ps * 256 + p := by simp [val256]
theorem val64_nonneg {ps : List Int} (h : ∀ p ∈ ps, 0 ≤ p ∧ p < 64) : 0 ≤ val64 ps := by
  have : ∀ (l : List Int) (a : Int), 0 ≤ a → (∀ p ∈ l, 0 ≤ p ∧ p < 64) → 0 ≤ l.foldl (fun a p => a * 64 + p) a := by
    intro l
    induction l with
    | nil => intro a ha _; exact ha
    | cons p r ih =>
      intro a ha hl
      have hp := hl p (List.mem_cons_self ..)
      exact ih _ (by show (0 : Int) ≤ a * 64 + p; omega) fun q hq => hl q (List.mem_cons_of_mem _ hq)
  exact this ps 0 (by decide) h
def B64L : List UInt8 := [65, 66, 67, 68, 69, 70, 71, 72, 73, 74, 75, 76, 77, 78, 79, 80, 81, 82, 83, 84, 85, 86, 87, 88, 89, 90, 97, 98, 99, 100, 101, 102, 103, 104, 105, 106, 107, 108, 109, 110, 111, 112, 113, 114, 115, 116, 117, 118, 119, 120, 121, 122, 48, 49, 50, 51, 52, 53, 54, 55, 56, 57, 43, 47]
def b64c (p : Int) : Int := ((B64L.getD p.toNat 0).toNat : Int)
theorem B64L_len : B64L.length = 64 := rfl
/-- a state between two octets of the coding -/
structure Mid (ps : List Int) (lb lc : Int) (i : Nat) (N : Int) : Prop where
  in64 : ∀ p ∈ ps, 0 ≤ p ∧ p < 64
  lb0 : 0 ≤ lb
  lb12 : lb ≤ 12
  lc0 : 0 ≤ lc
  lc16 : lc < 65536
  len : 6 * (ps.length : Int) + lb = 8 * (i : Int)
  val : val64 ps * 2 ^ lb.toNat + lc % 2 ^ lb.toNat = N
theorem Mid.start : Mid [] 0 0 0 0 := ⟨fun _ h => (nomatch h), by decide, by decide, by decide, by decide, rfl, rfl⟩
theorem Mid.octet {ps : List Int} {lb lc N b : Int} {i : Nat} (M : Mid ps lb lc i N) (hlb : lb < 6) (hb0 : 0 ≤ b) (hb : b < 256) :
    Mid ps (lb + 8) (Builtin.bitAnd (Builtin.bitOr (lc * 2 ^ (8 : Int).toNat) b) 65535) (i + 1) (N * 256 + b) := by
  have e8 : (2 : Int) ^ (8 : Int).toNat = 256 := by decide
  have e : Builtin.bitAnd (Builtin.bitOr (lc * 2 ^ (8 : Int).toNat) b) 65535 = (lc * 256 + b) % 65536 := by
    rw [bitAnd_m16, bitOr_low (k := 8) (by rw [e8]; simp) hb0 (by simpa using hb), e8]
  rw [e]
  have hl := M.len
  have hv := M.val
  have h0 := M.lb0
  have hc0 := M.lc0
  refine ⟨M.in64, by omega, by omega, by omega, by omega, by omega, ?_⟩
  have : lb = 0 ∨ lb = 2 ∨ lb = 4 := by omega
  generalize val64 ps = V at hv ⊢
  rcases this with rfl | rfl | rfl
  · simp only [show ((0 : Int) + 8).toNat = 8 from rfl, show (0 : Int).toNat = 0 from rfl, show (2 : Int) ^ 8 = 256 from rfl, show (2 : Int) ^ 0 = 1 from rfl] at hv ⊢; omega
  · simp only [show ((2 : Int) + 8).toNat = 10 from rfl, show (2 : Int).toNat = 2 from rfl, show (2 : Int) ^ 10 = 1024 from rfl, show (2 : Int) ^ 2 = 4 from rfl] at hv ⊢; omega
  · simp only [show ((4 : Int) + 8).toNat = 12 from rfl, show (4 : Int).toNat = 4 from rfl, show (2 : Int) ^ 12 = 4096 from rfl, show (2 : Int) ^ 4 = 16 from rfl] at hv ⊢; omega
def sixOf (lc lb : Int) : Int := Builtin.bitAnd (lc.fdiv (2 ^ (lb - 6).toNat)) 63
theorem sixOf_range (lc lb : Int) : 0 ≤ sixOf lc lb ∧ sixOf lc lb < 64 := by
  unfold sixOf; rw [bitAnd_m6]; omega
theorem Mid.six {ps : List Int} {lb lc N : Int} {i : Nat} (M : Mid ps lb lc i N) (hlb : 6 ≤ lb) : Mid (ps ++ [sixOf lc lb]) (lb - 6) lc i N := by
  have hl := M.len
  have hv := M.val
  have h0 := M.lb0
  have h12 := M.lb12
  have hc0 := M.lc0
  refine ⟨fun p hp => ?_, by omega, by omega, M.lc0, M.lc16, ?_, ?_⟩
  · rcases List.mem_append.mp hp with hp | hp
    · exact M.in64 p hp
    · rw [List.mem_singleton.mp hp]; exact sixOf_range lc lb
  · rw [List.length_append, List.length_singleton]; omega
  · rw [val64_snoc]
    unfold sixOf
    rw [bitAnd_m6, Int.fdiv_eq_ediv_of_nonneg _ (Int.le_of_lt (Int.pow_pos (by decide)))]
    have : lb = 6 ∨ lb = 8 ∨ lb = 10 ∨ lb = 12 := by omega
    generalize val64 ps = V at hv ⊢
    rcases this with rfl | rfl | rfl | rfl
    · simp only [show ((6 : Int) - 6).toNat = 0 from rfl, show (6 : Int).toNat = 6 from rfl, show (2 : Int) ^ 6 = 64 from rfl, show (2 : Int) ^ 0 = 1 from rfl] at hv ⊢; omega
    · simp only [show ((8 : Int) - 6).toNat = 2 from rfl, show (8 : Int).toNat = 8 from rfl, show (2 : Int) ^ 8 = 256 from rfl, show (2 : Int) ^ 2 = 4 from rfl] at hv ⊢; omega
    · simp only [show ((10 : Int) - 6).toNat = 4 from rfl, show (10 : Int).toNat = 10 from rfl, show (2 : Int) ^ 10 = 1024 from rfl, show (2 : Int) ^ 4 = 16 from rfl] at hv ⊢; omega
    · simp only [show ((12 : Int) - 6).toNat = 6 from rfl, show (12 : Int).toNat = 12 from rfl, show (2 : Int) ^ 12 = 4096 from rfl, show (2 : Int) ^ 6 = 64 from rfl] at hv ⊢; omega
def mulOf (n : Nat) : Int := if n % 3 = 0 then 1 else if n % 3 = 1 then 16 else 4
/-- what a coding is: the places, and so many signs = behind them -/
structure Coded (n : Nat) (N : Int) (ps : List Int) (pad : Nat) : Prop where
  in64 : ∀ p ∈ ps, 0 ≤ p ∧ p < 64
  ne : ps ≠ []
  len : ps.length ≤ 8
  pad2 : pad ≤ 2
  val : val64 ps = N * mulOf n
theorem Mid.end2 {ps : List Int} {lc N : Int} {n : Nat} (M : Mid ps 2 lc n N) (h1 : 1 ≤ n) (h4 : n ≤ 4) : Coded n N (ps ++ [Builtin.bitAnd lc 3 * 2 ^ (4 : Int).toNat]) 2 := by
  have hl := M.len
  have hv := M.val
  have hc0 := M.lc0
  simp only [show (2 : Int).toNat = 2 from rfl, show (2 : Int) ^ 2 = 4 from rfl] at hv
  simp only [show (4 : Int).toNat = 4 from rfl, show (2 : Int) ^ 4 = 16 from rfl]
  rw [bitAnd_m2]
  refine ⟨fun p hp => ?_, by simp, by rw [List.length_append, List.length_singleton]; omega, by omega, ?_⟩
  · rcases List.mem_append.mp hp with hp | hp
    · exact M.in64 p hp
    · rw [List.mem_singleton.mp hp]; omega
  · rw [val64_snoc, mulOf, if_neg (by omega), if_pos (by omega)]; omega
theorem Mid.end4 {ps : List Int} {lc N : Int} {n : Nat} (M : Mid ps 4 lc n N) (h1 : 1 ≤ n) (h4 : n ≤ 4) : Coded n N (ps ++ [Builtin.bitAnd lc 15 * 2 ^ (2 : Int).toNat]) 1 := by
  have hl := M.len
  have hv := M.val
  have hc0 := M.lc0
  simp only [show (4 : Int).toNat = 4 from rfl, show (2 : Int) ^ 4 = 16 from rfl] at hv
  simp only [show (2 : Int).toNat = 2 from rfl, show (2 : Int) ^ 2 = 4 from rfl]
  rw [bitAnd_m4]
  refine ⟨fun p hp => ?_, by simp, by rw [List.length_append, List.length_singleton]; omega, by omega, ?_⟩
  · rcases List.mem_append.mp hp with hp | hp
    · exact M.in64 p hp
    · rw [List.mem_singleton.mp hp]; omega
  · rw [val64_snoc, mulOf, if_neg (by omega), if_neg (by omega)]; omega
theorem Mid.end0 {ps : List Int} {lc N : Int} {n : Nat} (M : Mid ps 0 lc n N) (h1 : 1 ≤ n) (h4 : n ≤ 4) : Coded n N ps 0 := by
  have hl := M.len
  have hv := M.val
  simp only [show (0 : Int).toNat = 0 from rfl, show (2 : Int) ^ 0 = 1 from rfl] at hv
  refine ⟨M.in64, fun e => by rw [e] at hl; simp at hl; omega, by omega, by omega, ?_⟩
  rw [mulOf, if_pos (by omega)]; omega

section
variable {prog : Program} {w : World} {A : Around} {E : Value → Shared → Prop} {base : Heap} {s₀ s : Shared} {nw kn : List (Addr × Obj)} {env : Env} {Q : Value → Shared → Prop}
structure BI (o : Obj) (b : Array UInt8) (t : Tok) (i : Nat) : Prop where
  cls : o.cls = .type "bytes_iterator"
  data : o.data = .fields #[.bytes b t, .int i 0]
theorem bIter {b : Array UInt8} {t : Tok} (G : Pur base s₀ s nw kn) (h : ∀ I oI s', BI oI b t 0 → Pur base s₀ s' ((I, oI) :: nw) kn → Q (.ref I) s') : wpAny (model prog w) A (pyIter (.bytes b t)) Q E s :=
  KBw.pyIter_bytes (h _ _ _ ⟨rfl, rfl⟩ (G.push rfl))
theorem bItemI {oI : Obj} {I : Addr} {b : Array UInt8} {t : Tok} {i : Nat} {c : UInt8} {Q : Option Value → Shared → Prop} (G : Pur base s₀ s nw kn) (g : Obj → List (Addr × Obj)) (hI : BI oI b t i) (R : ∀ o', Rep I oI o' nw (g o')) (hx : b[i]? = some c)
    (h : ∀ o' t' s', BI o' b t (i + 1) → Pur base s₀ s' (g o') kn → Q (some (.int (c.toNat : Int) t')) s') : wpAny (model prog w) A (pyNext (.ref I)) Q E s := by
  refine KBw.next_item ⟨oI, G.get (.inl (R oI).mem), hI.cls, hI.data⟩ hx fun h' hit hs => ?_
  obtain ⟨o', ho', hc, hd⟩ := hit
  exact h o' _ _ ⟨hc, hd⟩ (G.change (R o') ⟨_, _, rfl⟩ (fun b z hb e => hs.extBut b z hb e) ho')
theorem bEnd {oI : Obj} {I : Addr} {b : Array UInt8} {t : Tok} {i : Nat} {nw' : List (Addr × Obj)} {Q : Option Value → Shared → Prop} (G : Pur base s₀ s nw kn) (hh : A.handled = none) (hI : BI oI b t i) (R : Del I oI nw nw') (hx : b.size ≤ i)
    (h : ∀ s', Pur base s₀ s' nw' kn → Q none s') : wpAny (model prog w) A (pyNext (.ref I)) Q E s := by
  refine KBw.next_end hh ⟨oI, G.get (.inl R.mem), hI.cls, hI.data⟩ (by simpa using hx) fun h' hs => ?_
  exact h _ (G.forget R ⟨_, _, rfl⟩ fun b o hb e => hs b o hb e)
theorem bSub_ {value slice : Expr} {l : List UInt8} {t u : Tok} {i : Int} (G : Pur base s₀ s nw kn) (hz : l.length ≤ 1099511627776) (h0 : 0 ≤ i) (h1 : i < (l.length : Int))
    (hs : subscripted slice false (.bytes l.toArray t) (.int i u) = operate [.bytes l.toArray t, .int i u] (getItem (.bytes l.toArray t) (.int i u)))
    (h : ∀ t s', Pur base s₀ s' nw kn → Q (.int ((l.getD i.toNat 0).toNat : Int) t) s') : wpAny (model prog w) A (subscriptTail value slice (.bytes l.toArray t) (.int i u)) Q E s :=
  tail_any (typeIs_bytes _ _ _) FB.slot_bytes_getitem.lookup (getItem_bytes hz h0 h1 (h _ _ (G.tok _))) hs
-- x.append(e) as a statement
theorem appS {o : Expr} {e : Expr} {apos pos spos : Pos} {Post : Shared → Prop} {pl : Sem Bool}
    (h : wpAny (model prog w) A (eval o env) (fun ov s₁ => ∃ l vs k nw, ov = .ref l ∧ Pur base s₀ s₁ nw kn ∧ ((l, lst vs k) ∈ nw ∨ (l, lst vs k) ∈ kn) ∧ wpAny (model prog w) A (eval e env) (fun v s₂ => wpAny (model prog w) A (call (.builtin "list.append") [.ref l, v]) (fun r s' => r = .none ∧ Post s') E s₂) E s₁) E s)
    (hi : interactive env = false := by rfl)
    (he : starEach (e :: []) env = (false, eval e env) :: starEach [] env := by rfl)
    (hc : eval (.Call (.Attribute o (Str.ofString "append") apos) [e] [] pos) env = (do let ov ← eval o env; standAt apos.atName; let (f, first) ← holding [ov] (getMethod ov (Str.ofString "append") pl); callWith pos f first (backTo pos (starEach [e] env)) []) := by rfl) :
    wpAny (model prog w) A (exec (.Expr (.Call (.Attribute o (Str.ofString "append") apos) [e] [] pos) spos) env) (fun f s' => f = .next ∧ Post s') E s := by
  refine wpAny_Expr (MethodCall_ (wpAny_mono h (fun ov s₁ h₁ => ?_) fun _ _ x => x) hc) hi rfl
  obtain ⟨l, vs, k, nw, rfl, G, hm, h₂⟩ := h₁
  refine getMethod_builtin (G.list hm).typeIs PySem.F.plainAttrs_list slot_list_append type_list_append (fun a ea => ?_) ?_
  · cases ea; exact ⟨_, G.get hm, rfl⟩
  · refine callWith_method1 (spliced_more (wpAny_mono h₂ (fun v s₂ h₃ => spliced_none (wpAny_mono h₃ (fun r s' hr => ?_) fun _ _ x => x)) fun _ _ x => x) he) he
    obtain ⟨rfl, hp⟩ := hr
    exact ⟨rfl, hp⟩
end

section
variable {prog : Program} {w : World} {A : Around} {E : Value → Shared → Prop} {base : Heap} {s : Shared} {Q : Value → Shared → Prop}
/-- the frame of b2a_base64 between its statements -/
def B2a (base : Heap) (s : Shared) (L O : Addr) (ps : List Int) (lb lc : Int) (more : List Int) (xs : List (Addr × Obj)) (s' : Shared) : Prop :=
  ∃ oL m vs k t1 t2, Pur base s s' (xs ++ [(O, lst vs k), (L, oL)]) [] ∧ NsO oL m ∧ IntsAre vs (ps.map b64c ++ more) ∧ m (Str.ofString "out") = some (.ref O) ∧ m (Str.ofString "leftbits") = some (.int lb t1) ∧ m (Str.ofString "leftchar") = some (.int lc t2) ∧ m (Str.ofString "newline") = some (.bool false)
theorem c_b2a {b : Array UInt8} {t : Tok} (C : Cx base w A s.heap 2) (h1 : 1 ≤ b.size) (h4 : b.size ≤ 4)
    (h : ∀ ps pad t s', Coded b.size (val256 (KBw.bInts b)) ps pad → Keeps s s' → Q (.bytes (byteArr (ps.map b64c ++ List.replicate pad 61)) t) s') :
    wpAny (model prog w) A (call (.ref 50) [.bytes b t] [(Str.ofString "newline", .bool false)]) Q E s := by
  refine callP (n := 1) (binds := [(Str.ofString "data", .bytes b t), (Str.ofString "newline", .bool false)]) (kn := []) C rfl rfl (BindsTo.of_eq rfl) rfl (by decide) rfl rfl rfl (fun _ h => nomatch h) fun A' L oL s₁ G H D => ?_
  have U := D.wd
  have hh := D.hh
  refine seq (fun s' => ∃ oL m, Pur base s s' [(L, oL)] [] ∧ NsO oL m ∧ m (Str.ofString "bin_data") = some (.bytes b t) ∧ m (Str.ofString "newline") = some (.bool false)) ?_ ?_
  · refine wpAny_Assign_Name ?_
    iterate 7 walk_at "m_c"
    refine c_buffer (D.here _ _ _ _ G (by walk_at "m_mem") H) fun s2 k2 => ?_
    have G2 := G.mono k2
    walk_at "m_sL"
    intro o' s' G' H'
    exact ⟨rfl, o', _, G', H', rfl, rfl⟩
  rintro s2 ⟨oL2, m2, G2, H2, e1, e2⟩
  refine seq (fun s' => ∃ oL m, Pur base s s' [(L, oL)] [] ∧ NsO oL m ∧ m (Str.ofString "bin_data") = some (.bytes b t) ∧ m (Str.ofString "newline") = some (.bool false)) ?_ ?_
  · refine wpAny_Assign_Name ?_
    iterate 7 walk_at "m_c"
    refine c_truth (D.here _ _ _ _ G2 (by walk_at "m_mem") H2) fun s3 k3 => ?_
    have G3 := G2.mono k3
    walk_at "m_sL"
    intro o' s' G' H'
    exact ⟨rfl, o', _, G', H', e1, rfl⟩
  rintro s3 ⟨oL3, m3, G3, H3, e3, e4⟩
  refine seq (fun s' => ∃ oL m O, Pur base s s' [(O, lst [] 0), (L, oL)] [] ∧ NsO oL m ∧ m (Str.ofString "out") = some (.ref O) ∧ m (Str.ofString "bin_data") = some (.bytes b t) ∧ m (Str.ofString "newline") = some (.bool false)) ?_ ?_
  · refine wpAny_Assign_Name (List_ (spliced_none ?_))
    refine lNew G3 (by decide) fun O s4 G4 => ?_
    walk_at "m_sL"
    intro o' s' G' H'
    exact ⟨rfl, o', _, O, G', H', rfl, e3, e4⟩
  rintro s4 ⟨oL4, m4, O, G4, H4, e5, e6, e7⟩
  -- leftbits = 0; leftchar = 0
  refine seq (fun s' => ∃ oL m t1, Pur base s s' [(O, lst [] 0), (L, oL)] [] ∧ NsO oL m ∧ m (Str.ofString "out") = some (.ref O) ∧ m (Str.ofString "bin_data") = some (.bytes b t) ∧ m (Str.ofString "newline") = some (.bool false) ∧ m (Str.ofString "leftbits") = some (.int 0 t1)) ?_ ?_
  · refine wpAny_Assign_Name ?_
    walk_at "m_e"
    walk_at "m_sL"
    intro o' s' G' H'
    exact ⟨rfl, o', _, _, G', H', e5, e6, e7, rfl⟩
  rintro s5 ⟨oL5, m5, t5, G5, H5, e8, e9, e10, e11⟩
  refine seq (fun s' => ∃ oL m t1 t2, Pur base s s' [(O, lst [] 0), (L, oL)] [] ∧ NsO oL m ∧ m (Str.ofString "out") = some (.ref O) ∧ m (Str.ofString "bin_data") = some (.bytes b t) ∧ m (Str.ofString "newline") = some (.bool false) ∧ m (Str.ofString "leftbits") = some (.int 0 t1) ∧ m (Str.ofString "leftchar") = some (.int 0 t2)) ?_ ?_
  · refine wpAny_Assign_Name ?_
    walk_at "m_e"
    walk_at "m_sL"
    intro o' s' G' H'
    exact ⟨rfl, o', _, _, _, G', H', e8, e9, e10, e11, rfl⟩
  rintro s6 ⟨oL6, m6, t6, u6, G6, H6, f1, f2, f3, f4, f5⟩
  -- for b in bin_data
  refine seq (fun s' => ∃ ps lb lc, Mid ps lb lc b.size (val256 (KBw.bInts b)) ∧ lb < 6 ∧ B2a base s L O ps lb lc [] [] s') ?_ ?_
  · refine forP ?_ (by intro _; rfl)
    walk_at "m_e"
    refine bIter G6 fun I oI s7 hI G7 => ?_
    refine ⟨fun n s' => ∃ i ps lb lc oI, n = b.size + 1 - i ∧ i ≤ b.size ∧ BI oI b t i ∧ Mid ps lb lc i (val256 ((KBw.bInts b).take i)) ∧ lb < 6 ∧ B2a base s L O ps lb lc [] [(I, oI)] s', b.size + 1,
      ⟨0, [], 0, 0, oI, rfl, Nat.zero_le _, hI, Mid.start, by decide, oL6, m6, [], 0, t6, u6, G7, H6, .nil, f1, f4, f5, f3⟩, by intro _; rfl, ?_⟩
    rintro n s8 ⟨i, ps, lb, lc, oI, rfl, hi, hBI, M, hlb, oL, m, vs, k, t1, t2, G8, H8, hvs, g1, g2, g3, g4⟩
    by_cases hlt : i < b.size
    · refine bItemI (c := b[i]) G8 (fun o' => [(I, o'), (O, lst vs k), (L, oL)]) hBI (fun o' => .head) (by simp [hlt]) fun oI' tb s9 hBI' G9 => ?_
      have hc := b[i].toNat_lt
      refine wpAny_assign_Name ?_
      walk_at "m_sL"
      intro oL9 s10 G10 H10
      have hlc := M.lc16
      have hlc0 := M.lc0
      have M2 := M.octet hlb (b := (b[i].toNat : Int)) (by omega) (by omega)
      have hN : val256 ((KBw.bInts b).take i) * 256 + (b[i].toNat : Int) = val256 ((KBw.bInts b).take (i + 1)) := by
        rw [List.take_add_one, KBw.ints_get (c := b[i]) (by simp [hlt])]
        exact (val256_snoc _ _).symm
      rw [hN] at M2
      -- leftchar = (leftchar << 8 | b) & 65535
      refine seq (fun s' => ∃ oL m t1 t2, Pur base s s' [(I, oI'), (O, lst vs k), (L, oL)] [] ∧ NsO oL m ∧ m (Str.ofString "out") = some (.ref O) ∧ m (Str.ofString "leftbits") = some (.int lb t1) ∧ m (Str.ofString "leftchar") = some (.int (Builtin.bitAnd (Builtin.bitOr (lc * 2 ^ (8 : Int).toNat) (b[i].toNat : Int)) 65535) t2) ∧ m (Str.ofString "newline") = some (.bool false)) ?_ ?_
      · refine wpAny_Assign_Name ?_
        iterate 5 walk_at "m_e"
        refine iShl (by assumption) (by decide) (by decide) (by omega) fun t3 s11 G11 => ?_
        iterate 4 walk_at "m_e"
        walk_at "m_sL"
        intro o' s' G' H'
        exact ⟨rfl, o', _, _, _, G', H', g1, g2, rfl, g4⟩
      rintro s11 ⟨oL11, m11, t11, u11, G11, H11, k1, k2, k3, k4⟩
      generalize Builtin.bitAnd (Builtin.bitOr (lc * 2 ^ (8 : Int).toNat) (b[i].toNat : Int)) 65535 = lc' at M2 k3
      -- leftbits = leftbits + 8
      refine seq (fun s' => B2a base s L O ps (lb + 8) lc' [] [(I, oI')] s') ?_ ?_
      · refine wpAny_Assign_Name ?_
        iterate 4 walk_at "m_e"
        walk_at "m_sL"
        intro o' s' G' H'
        exact ⟨rfl, o', _, vs, k, _, _, G', H', hvs, k1, rfl, k3, k4⟩
      intro s12 h12
      -- while leftbits >= 6
      refine seq (fun s' => ∃ ps lb, Mid ps lb lc' (i + 1) (val256 ((KBw.bInts b).take (i + 1))) ∧ lb < 6 ∧ B2a base s L O ps lb lc' [] [(I, oI')] s') ?_ ?_
      · refine whileP (fun n s' => ∃ ps lb, n = lb.toNat ∧ Mid ps lb lc' (i + 1) (val256 ((KBw.bInts b).take (i + 1))) ∧ B2a base s L O ps lb lc' [] [(I, oI')] s') ?_ _ ⟨ps, lb + 8, rfl, M2, h12⟩
        rintro n s13 ⟨ps, lb, rfl, M3, oL, m, vs, k, t1, t2, G13, H13, hvs, g1, g2, g3, g4⟩
        iterate 5 walk_at "m_e"
        by_cases h6 : (6 : Int) ≤ lb
        · rw [if_pos (by simpa using h6)]
          have hr := sixOf_range lc' lb
          have hvl : vs.length ≤ sizeLine := by
            have := M3.len
            have h0 := M3.lb0
            rw [hvs.length, List.append_nil, List.length_map, sizeLine_eq]; omega
          -- out.append(_B64[leftchar >> leftbits - 6 & 63])
          refine seq (fun s' => ∃ k t, Pur base s s' [(I, oI'), (O, lst (vs ++ [.int (b64c (sixOf lc' lb)) t]) k), (L, oL)] []) ?_ ?_
          · refine appS (base := base) (s₀ := s) (kn := []) ?_
            walk_at "m_e"
            refine ⟨O, vs, k, _, rfl, by assumption, by walk_at "m_kn", ?_⟩
            iterate 9 walk_at "m_e"
            refine iShr (by assumption) (by omega) fun t5 s15 G15 => ?_
            iterate 2 walk_at "m_e"
            refine bSub_ (l := B64L) (by assumption) (by decide) hr.1 hr.2 (by with_unfolding_all rfl) fun t6 s16 G16 => ?_
            refine lApp G16 (fun o' => [(I, oI'), (O, o'), (L, oL)]) (fun o' => .tail .head) hvl fun k2 s17 G17 => ?_
            exact ⟨rfl, k2, t6, G17⟩
          rintro s14 ⟨k14, t14, G14⟩
          -- leftbits = leftbits - 6
          refine seq (fun s' => B2a base s L O (ps ++ [sixOf lc' lb]) (lb - 6) lc' [] [(I, oI')] s') ?_ ?_
          · refine wpAny_Assign_Name ?_
            iterate 4 walk_at "m_e"
            walk_at "m_sL"
            intro o' s' G' H'
            refine ⟨rfl, o', _, _, _, _, _, G', H', ?_, g1, rfl, g3, g4⟩
            rw [List.append_nil, List.map_append] 
            rw [List.append_nil] at hvs
            exact ints_iff.mpr (paired_app (ints_iff.mp hvs) (.cons ⟨_, rfl⟩ .nil))
          intro s15 h15
          exact wpAny_execs_nil ⟨rfl, (lb - 6).toNat, by omega, _, _, rfl, M3.six h6, h15⟩
        · rw [if_neg (by simpa using h6)]
          exact ⟨ps, lb, M3, by omega, oL, m, vs, k, t1, t2, by assumption, H13, hvs, g1, g2, g3, g4⟩
      rintro s13 ⟨ps', lb', M3, hlb', h13⟩
      exact wpAny_execs_nil ⟨rfl, b.size + 1 - (i + 1), by omega, i + 1, ps', lb', lc', oI', rfl, hlt, hBI', M3, hlb', h13⟩
    · obtain rfl : i = b.size := by omega
      refine bEnd G8 hh hBI .head (Nat.le_refl _) fun s9 G9 => ?_
      rw [show (KBw.bInts b).take b.size = KBw.bInts b from by rw [← KBw.ints_length b, List.take_length]] at M
      exact ⟨ps, lb, lc, M, hlb, oL, m, vs, k, t1, t2, G9, H8, hvs, g1, g2, g3, g4⟩
  rintro s7 ⟨ps, lb, lc, M, hlb, oL, m, vs, k, t1, t2, G7, H7, hvs, g1, g2, g3, g4⟩
  have hvl : vs.length ≤ 20 := by
    have := M.len
    have h0 := M.lb0
    rw [hvs.length, List.append_nil, List.length_map]; omega
  -- if leftbits == 2 ..
  refine seq (fun s' => ∃ ps pad vs k, Coded b.size (val256 (KBw.bInts b)) ps pad ∧ IntsAre vs (ps.map b64c ++ List.replicate pad 61) ∧ Pur base s s' [(O, lst vs k), (L, oL)] []) ?_ ?_
  · refine wpAny_If ?_
    iterate 5 walk_at "m_e"
    have hsz : ∀ j : Nat, j ≤ 5 → vs.length + j ≤ sizeLine := fun j hj => by rw [sizeLine_eq]; omega
    have hl0 := M.lc0
    rw [List.append_nil] at hvs
    by_cases h2 : lb = 2
    · subst h2
      rw [if_pos (by decide)]
      have hcd := M.end2 h1 h4
      have hr := hcd.in64 _ (List.mem_append_right _ (List.mem_singleton.mpr rfl))
      refine seq (fun s' => ∃ k t, Pur base s s' [(O, lst (vs ++ [.int (b64c (Builtin.bitAnd lc 3 * 2 ^ (4 : Int).toNat)) t]) k), (L, oL)] []) ?_ ?_
      · refine appS (base := base) (s₀ := s) (kn := []) ?_
        walk_at "m_e"
        refine ⟨O, vs, k, _, rfl, by assumption, by walk_at "m_kn", ?_⟩
        iterate 8 walk_at "m_e"
        have ha := bitAnd_range lc (y := 3) (by decide)
        refine iShl (by assumption) (by decide) (by decide) (by omega) fun t5 s15 G15 => ?_
        refine bSub_ (l := B64L) (by assumption) (by decide) hr.1 hr.2 (by with_unfolding_all rfl) fun t6 s16 G16 => ?_
        refine lApp G16 (fun o' => [(O, o'), (L, oL)]) (fun o' => .head) (hsz 0 (by decide)) fun k2 s17 G17 => ?_
        exact ⟨rfl, k2, t6, G17⟩
      rintro s14 ⟨k14, t14, G14⟩
      refine seq (fun s' => ∃ k t', Pur base s s' [(O, lst (vs ++ [.int (b64c (Builtin.bitAnd lc 3 * 2 ^ (4 : Int).toNat)) t14] ++ [.int 61 t']) k), (L, oL)] []) ?_ ?_
      · refine appS (base := base) (s₀ := s) (kn := []) ?_
        walk_at "m_e"
        refine ⟨O, _, _, _, rfl, by assumption, by walk_at "m_kn", ?_⟩
        walk_at "m_e"
        refine lApp (by assumption) (fun o' => [(O, o'), (L, oL)]) (fun o' => .head) (by simpa using hsz 1 (by decide)) fun k2 s17 G17 => ?_
        exact ⟨rfl, k2, _, G17⟩
      rintro s15 ⟨k15, t15, G15⟩
      refine seq (fun s' => ∃ k t', Pur base s s' [(O, lst (vs ++ [.int (b64c (Builtin.bitAnd lc 3 * 2 ^ (4 : Int).toNat)) t14] ++ [.int 61 t15] ++ [.int 61 t']) k), (L, oL)] []) ?_ ?_
      · refine appS (base := base) (s₀ := s) (kn := []) ?_
        walk_at "m_e"
        refine ⟨O, _, _, _, rfl, by assumption, by walk_at "m_kn", ?_⟩
        walk_at "m_e"
        refine lApp (by assumption) (fun o' => [(O, o'), (L, oL)]) (fun o' => .head) (by simpa using hsz 2 (by decide)) fun k2 s17 G17 => ?_
        exact ⟨rfl, k2, _, G17⟩
      rintro s16 ⟨k16, t16, G16⟩
      refine wpAny_execs_nil ⟨rfl, _, 2, _, k16, hcd, ?_, G16⟩
      rw [List.map_append]
      have := ints_snoc (ints_snoc (ints_snoc hvs (b64c (Builtin.bitAnd lc 3 * 2 ^ (4 : Int).toNat)) t14) 61 t15) 61 t16
      rw [show List.replicate 2 (61 : Int) = [61] ++ [61] from rfl, List.map_singleton, ← List.append_assoc]
      exact this
    · rw [if_neg (by simpa using h2)]
      refine wpAny_execs_cons (wpAny_If ?_)
      iterate 5 walk_at "m_e"
      by_cases h4' : lb = 4
      · subst h4'
        rw [if_pos (by decide)]
        have hcd := M.end4 h1 h4
        have hr := hcd.in64 _ (List.mem_append_right _ (List.mem_singleton.mpr rfl))
        refine seq (fun s' => ∃ k t, Pur base s s' [(O, lst (vs ++ [.int (b64c (Builtin.bitAnd lc 15 * 2 ^ (2 : Int).toNat)) t]) k), (L, oL)] []) ?_ ?_
        · refine appS (base := base) (s₀ := s) (kn := []) ?_
          walk_at "m_e"
          refine ⟨O, vs, k, _, rfl, by assumption, by walk_at "m_kn", ?_⟩
          iterate 8 walk_at "m_e"
          have ha := bitAnd_range lc (y := 15) (by decide)
          refine iShl (by assumption) (by decide) (by decide) (by omega) fun t5 s15 G15 => ?_
          refine bSub_ (l := B64L) (by assumption) (by decide) hr.1 hr.2 (by with_unfolding_all rfl) fun t6 s16 G16 => ?_
          refine lApp G16 (fun o' => [(O, o'), (L, oL)]) (fun o' => .head) (hsz 0 (by decide)) fun k2 s17 G17 => ?_
          exact ⟨rfl, k2, t6, G17⟩
        rintro s14 ⟨k14, t14, G14⟩
        refine seq (fun s' => ∃ k t', Pur base s s' [(O, lst (vs ++ [.int (b64c (Builtin.bitAnd lc 15 * 2 ^ (2 : Int).toNat)) t14] ++ [.int 61 t']) k), (L, oL)] []) ?_ ?_
        · refine appS (base := base) (s₀ := s) (kn := []) ?_
          walk_at "m_e"
          refine ⟨O, _, _, _, rfl, by assumption, by walk_at "m_kn", ?_⟩
          walk_at "m_e"
          refine lApp (by assumption) (fun o' => [(O, o'), (L, oL)]) (fun o' => .head) (by simpa using hsz 1 (by decide)) fun k2 s17 G17 => ?_
          exact ⟨rfl, k2, _, G17⟩
        rintro s15 ⟨k15, t15, G15⟩
        refine wpAny_execs_nil (wpAny_execs_nil ⟨rfl, _, 1, _, k15, hcd, ?_, G15⟩)
        rw [List.map_append]
        exact ints_iff.mpr (paired_app (paired_app (ints_iff.mp hvs) (.cons ⟨_, rfl⟩ .nil)) (.cons ⟨_, rfl⟩ .nil))
      · rw [if_neg (by simpa using h4')]
        have hl := M.len
        have hb0 := M.lb0
        obtain rfl : lb = 0 := by omega
        exact wpAny_execs_nil (wpAny_execs_nil ⟨rfl, _, 0, vs, k, M.end0 h1 h4, by simpa using hvs, by assumption⟩)
  rintro s8 ⟨ps', pad, vs', k', hcod, hvs', G8⟩
  refine seq (fun s' => ∃ nw, Pur base s s' [(O, lst vs' k'), (L, oL)] [] ∧ nw = 0) ?_ ?_
  · refine wpAny_If ?_
    refine PyProof.Rows.isTrue_plain ?_
    iterate 2 walk_at "m_e"
    rw [if_neg (by decide)]
    exact wpAny_execs_nil ⟨rfl, 0, by assumption, rfl⟩
  rintro s9 ⟨_, G9, _⟩
  refine seqRet ?_
  iterate 6 walk_at "m_e"
  refine lBytes G9 hh (by walk_at "m_kn") hvs' ?_ (by rw [hvs'.length, sizeLine_eq, List.length_append, List.length_map, List.length_replicate]; have := hcod.len; have := hcod.pad2; omega) fun t10 s10 G10 => ?_
  · intro n hn
    rcases List.mem_append.mp hn with hn | hn
    · obtain ⟨p, _, rfl⟩ := List.mem_map.mp hn
      have := (B64L.getD p.toNat 0).toNat_lt
      unfold b64c; omega
    · rw [List.eq_of_mem_replicate hn]; decide
  · exact h ps' pad t10 s10 hcod G10.keeps
end

theorem forIn_steps {β : Type} (F : Nat → β → Sem (ForInStep β)) (st : Nat → β) (n : Nat) (h : ∀ x i, i < n → F x (st i) = pure (.yield (st (i + 1)))) : ∀ (l : List Nat) (i : Nat), i + l.length = n → forIn l (st i) F = pure (st n)
  | [], i, e => by rw [List.forIn_nil, ← e]; rfl
  | x :: l, i, e => by
    rw [List.length_cons] at e
    rw [List.forIn_cons, h x i (by omega)]
    exact forIn_steps F st n h l (i + 1) (by omega)
open PySem.Builtin in
theorem runAscii {id : String} {b : Array UInt8} (h : ∀ c ∈ b.toList, c.toNat < 128) (hz : b.size ≤ sizeLine) : _codecs.runDecoder id _codecs.asciiDecoder none true b 0 [] = pure ((b.toList.map (·.toNat)).toArray, b.size) := by
  simp only [_codecs.runDecoder]
  rw [Std.Legacy.Range.forIn_eq_forIn_range']
  refine Eq.trans (congrArg (· >>= fun s => pure (s.2.1, s.1)) (forIn_steps _ (fun i => (i, ((b.toList.take i).map (·.toNat)).toArray, ({} : _codecs.Faults))) b.size ?_ _ 0 ?_)) ?_
  · intro x i hi
    have hlen : ((b.toList.take i).map (·.toNat)).toArray.size = i := by simp; omega
    dsimp only
    rw [if_neg (by rw [hlen]; omega), if_neg (by omega)]
    have hc : (b.getD i 0).toNat < 128 := by
      rw [Array.getD_eq_getD_getElem?, Array.getElem?_eq_getElem hi]
      exact h _ (by simp)
    have e : _codecs.asciiDecoder.find true b i = .text [(b.getD i 0).toNat] (i + 1) := by
      show (if (b.getD i 0).toNat < 128 then _ else _) = _
      rw [if_pos hc]; rfl
    rw [e]
    have e2 : b.toList.take (i + 1) = b.toList.take i ++ [b[i]] := by
      rw [List.take_add_one]
      simp [hi]
    rw [e2]
    simp [hi, Array.getD]
  · simp [Std.Legacy.Range.size]
  · rw [List.take_of_length_le (by simp)]; rfl
open PySem.Builtin in
theorem decode_ent {c : UInt8} {cs : List UInt8} {t u : Tok} : Builtin.«bytes.decode» ⟨[.bytes (c :: cs).toArray t, .str (PySem.Str.ofString "ascii") u], []⟩ = (mkStr (PySem.Str.ofString "utf-8") >>= fun _ => mkStr (PySem.Str.ofString "ascii") >>= fun e => mkStr (PySem.Str.ofString "bytes.decode") >>= fun d =>
    call (.builtin "_codecs.decode.text") [.bytes (c :: cs).toArray t, e, .none, d] >>= fun v => ret v) := by kernel_rfl
open PySem.Builtin in
theorem decode_road {id : String} {b : Array UInt8} : _codecs.decodeRoad id b (PySem.Str.ofString "ascii") none [] = (_codecs.runDecoder id _codecs.asciiDecoder none true b 0 [] >>= fun r => mkStr ⟨r.1⟩) := by kernel_rfl
theorem decode_args (a b : Value) : argsOk "bytes.decode" ⟨[a, b], []⟩ := by unfold argsOk; kernel_rfl
open PySem.Builtin in
theorem decode_text {b : Array UInt8} {t t1 t2 : Tok} {d : PySem.Str} (h : ∀ c ∈ b.toList, c.toNat < 128) (hz : b.size ≤ sizeLine) :
    Meets («_codecs.decode.text» ⟨[.bytes b t, .str (PySem.Str.ofString "ascii") t1, .none, .str d t2], []⟩) (fun _ R s => R (.ok (.ret (.str ⟨(b.toList.map (·.toNat)).toArray⟩ s.toks))) { s with toks := s.toks + 1 }) := by
  refine .of_wp fun prog w A R s hS => ?_
  show wpAny _ _ (Bytes.bytesLike _ (.bytes b t) >>= fun r => _) _ _ s
  refine wpAny_bind (wpAny_of_eq KBd.like_eq ?_)
  refine wpAny_bind (wpAny_of_eq KBd.held_eq ?_)
  show wpAny _ _ (_codecs.decodeRoad _ b (PySem.Str.ofString "ascii") none [] >>= fun v => _) _ _ s
  rw [decode_road, runAscii h hz]
  refine wpAny_bind (wpAny_bind (wpAny_pure ?_))
  exact wpAny_mkStr (wpAny_pure ⟨_, rfl, hS⟩) (by show (b.toList.map (·.toNat)).toArray.size ≤ _; simpa using hz)
theorem decode_meets {b : Array UInt8} {t u : Tok} (hne : b ≠ #[]) (h : ∀ c ∈ b.toList, c.toNat < 128) (hz : b.size ≤ sizeLine) :
    Meets (Builtin.«bytes.decode» ⟨[.bytes b t, .str (PySem.Str.ofString "ascii") u], []⟩) (fun _ R s => ∀ t' k, R (.ok (.ret (.str ⟨(b.toList.map (·.toNat)).toArray⟩ t'))) { s with toks := k }) := by
  obtain ⟨l⟩ := b
  cases l with
  | nil => exact absurd rfl hne
  | cons c cs =>
    refine .of_wp fun prog w A R s hS => ?_
    rw [decode_ent]
    refine wpAny_bind (wpAny_mkStr ?_ (by decide))
    refine wpAny_bind (wpAny_mkStr ?_ (by decide))
    refine wpAny_bind (wpAny_mkStr ?_ (by decide))
    exact wpAny_bind (call_function_meets KBd.kind_text KBd.plain_text KBd.entry_text (KBd.args_text _ _ _ _) (decode_text h hz) (wpAny_pure ⟨_, rfl, hS _ _⟩))
section
variable {prog : Program} {w : World} {A : Around} {E : Value → Shared → Prop} {base : Heap} {s₀ s : Shared} {nw kn : List (Addr × Obj)} {env : Env} {Q : Value → Shared → Prop}
theorem bDecode {b : Array UInt8} {t u : Tok} (G : Pur base s₀ s nw kn) (hne : b ≠ #[]) (hb : ∀ c ∈ b.toList, c.toNat < 128) (hz : b.size ≤ sizeLine) (h : ∀ t s', Pur base s₀ s' nw kn → Q (.str ⟨(b.toList.map (·.toNat)).toArray⟩ t) s') :
    wpAny (model prog w) A (call (.builtin "bytes.decode") [.bytes b t, .str (PySem.Str.ofString "ascii") u]) Q E s :=
  call_meets FB.slot_bytes_decode (typeIs_bytes _ _ _) FB.entry_bytes_decode (decode_args _ _) (decode_meets hne hb hz) fun t' k => h t' _ (G.tok k)
end

section
variable {prog : Program} {w : World} {A : Around} {E : Value → Shared → Prop} {base : Heap} {s₀ s : Shared} {nw kn : List (Addr × Obj)} {env : Env} {Q : Value → Shared → Prop} {l b : Addr} {vs ws : List Value} {k k' : Nat}
theorem lAdd (G : Pur base s₀ s nw kn) (h1 : (l, lst vs k) ∈ nw ∨ (l, lst vs k) ∈ kn) (h2 : (b, lst ws k') ∈ nw ∨ (b, lst ws k') ∈ kn) (hz : vs.length + ws.length ≤ sizeLine) (h : ∀ D s', Pur base s₀ s' ((D, lst (vs ++ ws) 0) :: nw) kn → Q (.ref D) s') :
    wpAny (model prog w) A (binaryOp .Add (.ref l) (.ref b)) Q E s := by
  have e : vs.toArray ++ ws.toArray = (vs ++ ws).toArray := by simp
  refine concat_meets ⟨_, G.get h1, rfl⟩ ⟨_, G.get h2, rfl⟩ noFill_list_add seq_list_add PySem.F.slot_list_add PySem.F.entry_list_add (PySem.F.args_list_add_2 _ _) (list_addW l b vs.toArray ws.toArray k k' none none #[] #[] (by simpa using hz)) ⟨G.get h1, G.get h2, ?_⟩
  rw [e]
  exact h _ _ (G.push rfl)
theorem lMul {x : Int} {u : Tok} (G : Pur base s₀ s nw kn) (h1 : (l, lst vs k) ∈ nw ∨ (l, lst vs k) ∈ kn) (hlo : -(2 ^ 63 : Int) ≤ x) (hhi : x < 2 ^ 63) (hz : vs.length * x.toNat ≤ 2 ^ 24)
    (h : ∀ D s', Pur base s₀ s' ((D, { cls := .type "list", data := .seq (List.foldl (fun x1 x2 => x1 ++ x2) #[] (List.replicate (if vs.toArray.isEmpty = true then 0 else x.toNat) vs.toArray)) }) :: nw) kn → Q (.ref D) s') :
    wpAny (model prog w) A (binaryOp .Mult (.ref l) (.int x u)) Q E s := by
  have hl := G.get h1
  exact wpAny_binaryOp_repeat_ref (T := "list") (U := "int") (by decide) ⟨_, hl, rfl⟩ (fun s' => typeIs_int s' x u) noFill_list_mul F.fills_int_mul F.slot_int_rmul repeat_list F.slot_int_index.lookup
    (call_meets F.slot_int_rmul (typeIs_int s x u) F.entry_int_rmul (F.args_int_rmul_2 _ _) (int___rmul___int_list x u l vs.toArray k)
      ⟨hl, rfl, ⟨_, hl, rfl⟩, call_meets F.slot_list_mul ⟨_, hl, rfl⟩ F.entry_list_mul (F.args_list_mul_2 _ _)
        (AutoListH.list___mul___list_int_3 l vs.toArray k x u (by simp [Builtin.List.listFitsIndex]; omega) (by simp only [List.size_toArray]; omega) (by simp [Builtin.List.listTooLong, sizeLine]; omega))
        ⟨hl, h _ _ (G.push rfl)⟩⟩)
theorem lNeg {value slice : Expr} {n : Int} {u : Tok} {v : Value} (G : Pur base s₀ s nw kn) (hm : (l, lst vs k) ∈ nw ∨ (l, lst vs k) ∈ kn) (h0 : n < 0) (h1 : -(vs.length : Int) ≤ n) (h2 : -(2 ^ 63) ≤ n) (hv : vs[(n + vs.length).toNat]? = some v)
    (hs : subscripted slice false (.ref l) (.int n u) = operate [.ref l, .int n u] (getItem (.ref l) (.int n u))) (h : Q v s) : wpAny (model prog w) A (subscriptTail value slice (.ref l) (.int n u)) Q E s :=
  tail_any (G.list hm).typeIs slot_list_getitem.lookup (wpAny_getItem_list_neg (G.list hm) h0 (by simpa using h1) h2 (by simpa using hv) h) hs
theorem iNeg {i : Int} {t : Tok} (G : Pur base s₀ s nw kn) (h : ∀ t s', Pur base s₀ s' nw kn → Q (.int (-i) t) s') : wpAny (model prog w) A (unaryOp .USub (.int i t)) Q E s := neg_int (h _ _ (G.tok _))
theorem srcS {x : Str} {t : Tok} (G : Pur base s₀ s nw kn) (hh : A.handled = none) (ha : x.cps.all (· < 128) = true) (hz : x.cps.size ≤ sizeLine)
    (h : ∀ I s₂, Src prog w A base s₀ s nw kn x.cps.size (SignAt x) I s₂ → Q (.ref I) s₂) : wpAny (model prog w) A (pyIter (.str x t)) Q E s := by
  refine wpAny_pyIter_ascii ha (h _ _ ⟨⟨_, _, Walks.strAscii hh s.heap.objs.size x t, fun i h st b hb => ?_, ?_, fun b hb => ?_⟩, hz, fun b o e => Heap.get?_push_of_some _ e, Heap.get?_none_of_le (Nat.le_refl _), ⟨_, G.push rfl⟩⟩)
  · obtain ⟨o, ho, _⟩ := st
    rw [List.mem_singleton.mp hb]
    exact ⟨o, ho⟩
  · exact ⟨_, Heap.get?_push_size _ rfl, rfl, rfl⟩
  · show b < (s.heap.push _).objs.size
    rw [Heap.size_push, List.mem_singleton.mp hb]
    exact Nat.lt_succ_self _
end

section
variable {prog : Program} {w : World} {A : Around} {E : Value → Shared → Prop} {base : Heap} {s : Shared} {Q : Value → Shared → Prop}
theorem c_b64 {b : Array UInt8} {t : Tok} (C : Cx base w A s.heap 3) (h1 : 1 ≤ b.size) (h4 : b.size ≤ 4)
    (h : ∀ ps pad t s', Coded b.size (val256 (KBw.bInts b)) ps pad → Keeps s s' → Q (.bytes (byteArr (ps.map b64c ++ List.replicate pad 61)) t) s') :
    wpAny (model prog w) A (call (.ref 58) [.bytes b t]) Q E s := by
  refine callP (n := 2) (binds := [(Str.ofString "s", .bytes b t), (Str.ofString "altchars", .none)]) (kn := []) C rfl rfl (binds_K (C.X.keeps C.st) rfl rfl rfl rfl rfl) rfl (by decide) rfl rfl rfl (fun _ h => nomatch h) fun A' L oL s₁ G H D => ?_
  have U := D.wd
  have hh := D.hh
  refine seq (fun s' => ∃ oL m ps pad t, Pur base s s' [(L, oL)] [] ∧ NsO oL m ∧ Coded b.size (val256 (KBw.bInts b)) ps pad ∧ m (Str.ofString "altchars") = some .none ∧ m (Str.ofString "encoded") = some (.bytes (byteArr (ps.map b64c ++ List.replicate pad 61)) t)) ?_ ?_
  · refine wpAny_Assign_Name (wpAny_Call_Name_kw ?_)
    walk_at "m_e"
    refine callWith_KW U.X rfl rfl ?_
    iterate 3 walk_at "m_e"
    refine kwAll_cons (wpAny_Constant_bool (kwAll_nil ?_))
    walk_at "m_c"
    refine c_b2a (D.here _ _ _ _ G (by walk_at "m_mem") H) h1 h4 fun ps pad t' s2 hc k2 => ?_
    have G2 := G.mono k2
    walk_at "m_sL"
    intro o' s' G' H'
    exact ⟨rfl, o', _, ps, pad, t', G', H', hc, rfl, rfl⟩
  rintro s2 ⟨oL2, m2, ps, pad, t2, G2, H2, hc, e1, e2⟩
  refine seq (fun s' => Keeps s s' ∧ Pur base s s' [(L, oL2)] []) ?_ ?_
  · refine wpAny_If ?_
    iterate 2 walk_at "m_e"
    refine wpAny_Constant_none ?_
    refine isNot_none ?_
    walk_at "m_e"
    rw [if_neg (by decide)]
    exact wpAny_execs_nil ⟨rfl, G2.keeps, G2⟩
  rintro s3 ⟨k3, G3⟩
  refine seqRet ?_
  walk_at "m_e"
  exact h ps pad _ _ hc k3
end

-- plain: the signs
def SIGNS : Str := Str.ofString "ABCDEFGHIJKLMNOPQRSTUVWXYZabcdefghijklmnopqrstuvwxyz0123456789+/"
theorem sign_all : ∀ p : Fin 64, Txt.find SIGNS ⟨#[(B64L.getD p.val 0).toNat]⟩ = (p.val : Int) ∧ (B64L.getD p.val 0).toNat < 128 ∧ (B64L.getD p.val 0).toNat ≠ 61 := by decide +kernel
theorem sign_at {p : Int} (h0 : 0 ≤ p) (h1 : p < 64) : Txt.find SIGNS ⟨#[(b64c p).toNat]⟩ = p ∧ 0 ≤ b64c p ∧ b64c p < 128 ∧ (b64c p).toNat ≠ 61 := by
  have := sign_all ⟨p.toNat, by omega⟩
  simp only at this
  refine ⟨?_, ?_, ?_, ?_⟩
  · have e := this.1
    unfold b64c
    rw [Int.toNat_natCast, e]
    omega
  · unfold b64c; omega
  · unfold b64c; omega
  · unfold b64c; rw [Int.toNat_natCast]; exact this.2.2
theorem byteArr_nats {ns : List Int} (h : ∀ n ∈ ns, 0 ≤ n ∧ n < 256) : (byteArr ns).toList.map (·.toNat) = ns.map (·.toNat) := by
  unfold byteArr
  rw [List.map_map]
  apply List.map_congr_left
  intro n hn
  have := h n hn
  show (n.toNat.toUInt8).toNat = n.toNat
  rw [Nat.toUInt8, UInt8.toNat_ofNat']
  omega
theorem text_of {ps : List Int} {pad : Nat} {x : Str} (h : ∀ p ∈ ps, 0 ≤ p ∧ p < 64) (hx : x = ⟨((byteArr (ps.map b64c ++ List.replicate pad 61)).toList.map (·.toNat)).toArray⟩) :
    (Txt.replace x ⟨#[61]⟩ ⟨#[]⟩).cps.toList = ps.map fun p => (b64c p).toNat := by
  subst hx
  rw [replace_strikes]
  have hr : ∀ n ∈ ps.map b64c ++ List.replicate pad 61, 0 ≤ n ∧ n < 256 := by
    intro n hn
    rcases List.mem_append.mp hn with hn | hn
    · obtain ⟨p, hp, rfl⟩ := List.mem_map.mp hn
      have := sign_at (h p hp).1 (h p hp).2
      omega
    · rw [(List.mem_replicate.mp hn).2]; decide
  rw [List.toList_toArray, byteArr_nats hr, List.map_append, List.filter_append, List.map_map]
  have e1 : (List.map (fun x : Int => x.toNat) (List.replicate pad 61)).filter (fun x => x != 61) = [] := by
    rw [List.filter_eq_nil_iff]
    intro a ha
    obtain ⟨b, hb, rfl⟩ := List.mem_map.mp ha
    rw [(List.mem_replicate.mp hb).2]; decide
  rw [e1, List.append_nil]
  refine List.filter_eq_self.mpr fun a ha => ?_
  obtain ⟨p, hp, rfl⟩ := List.mem_map.mp ha
  have := (sign_at (h p hp).1 (h p hp).2).2.2.2
  simpa using this
/-- the places with what is laid upon them -/
def marked (ps : List Int) (high : Int) : List Int := ps.dropLast.map (fun p => p + 64 + high) ++ [ps.getLastD 0 + high]

section
variable {prog : Program} {w : World} {A : Around} {E : Value → Shared → Prop} {base : Heap} {s : Shared} {Q : Value → Shared → Prop}
theorem c_places {b : Array UInt8} {t th : Tok} {high : Int} (C : Cx base w A s.heap 4) (h1 : 1 ≤ b.size) (h4 : b.size ≤ 4)
    (h : ∀ D k (vs : List Value) ps pad s', Coded b.size (val256 (KBw.bInts b)) ps pad → IntsAre vs (marked ps high) → Pur base s s' [(D, lst vs k)] [] → Q (.ref D) s') :
    wpAny (model prog w) A (call (.ref 82) [.bytes b t, .int high th]) Q E s := by
  refine callPC (n := 3) (binds := [(Str.ofString "row", .bytes b t), (Str.ofString "high", .int high th)]) (kn := []) C rfl rfl (BindsTo.of_eq rfl) rfl (by decide +kernel) rfl rfl rfl (fun _ h => nomatch h) fun A' L oL s₁ cells G Y H D => ?_
  obtain ⟨o1, o2, rfl, d1, d2⟩ := CellsAre.two Y
  clear Y
  have U := D.wd
  have hh := D.hh
  obtain ⟨m0, H0, hrow⟩ : ∃ m0, NsO oL m0 ∧ m0 (Str.ofString "row") = some (.bytes b t) := ⟨_, H, rfl⟩
  clear H
  replace d1 : o1.data = .cell none := d1
  replace d2 : o2.data = .cell (some (.int high th)) := d2
  -- signs = '...'
  refine seq (fun s' => 1 ≤ s'.toks ∧ ∃ o1' t1, Pur base s s' [(L + 1 + 1, o1'), (L + 1, o2), (L, oL)] [] ∧ o1'.data = .cell (some (.str SIGNS t1))) ?_ ?_
  · refine wpAny_Assign_Name (Calls.Constant_str ?_)
    have G1 := G.tok (s₁.toks + 1)
    refine wpAny_with_toks (n := 1) (Nat.succ_le_succ (Nat.zero_le _)) ?_
    walk_at "m_sC"
    intro o1' s2 G2 d1' hk
    exact ⟨rfl, hk, o1', _, G2, d1'⟩
  rintro s2 ⟨hk2, o1', t1, G2, d1'⟩
  -- places = [...]
  refine seq (fun s' => ∃ oL' m' D kD vs ps pad, Pur base s s' [(D, lst vs kD), (L + 1 + 1, o1'), (L + 1, o2), (L, oL')] [] ∧ NsO oL' m' ∧ m' (Str.ofString "places") = some (.ref D) ∧ Coded b.size (val256 (KBw.bInts b)) ps pad ∧ IntsAre vs ps) ?_ ?_
  · refine compWA (base := base) (s₀ := s) (kn := []) (m := m0) (fun _ => true) (fun v y => ∀ x t, v = .str x t → IsI (Txt.find SIGNS x) y) (by with_unfolding_all rfl) (by with_unfolding_all rfl) (by decide) rfl (by decide) rfl rfl rfl (by intro _; rfl) rfl ?_
    refine MethodCall_ ?_
    refine MethodCall_ ?_
    iterate 6 walk_at "m_c"
    refine ⟨U.X.keeps G2.based, ?_⟩
    refine wpAny_with_toks (n := 1) hk2 ?_
    refine c_b64 (D.here _ _ _ _ G2 (by walk_at "m_mem") H0) h1 h4 fun ps pad t3 s3 hc k3 hk3 => ?_
    have G3 := G2.mono k3
    have hr : ∀ n ∈ ps.map b64c ++ List.replicate pad 61, 0 ≤ n ∧ n < 128 := by
      intro n hn
      rcases List.mem_append.mp hn with hn | hn
      · obtain ⟨p, hp, rfl⟩ := List.mem_map.mp hn
        have := sign_at (hc.in64 p hp).1 (hc.in64 p hp).2
        omega
      · rw [(List.mem_replicate.mp hn).2]; decide
    have hlen : (ps.map b64c ++ List.replicate pad 61).length ≤ 10 := by
      rw [List.length_append, List.length_map, List.length_replicate]
      have := hc.len
      have := hc.pad2
      omega
    refine KBd.method ?_
    refine callWith_method1 ?_
    refine spliced_more (Calls.Constant_str ?_)
    refine spliced_none ?_
    have G4 := G3.tok (s3.toks + 1)
    refine wpAny_with_toks (n := 1) (Nat.succ_le_succ (Nat.zero_le _)) ?_
    refine bDecode G4 ?_ ?_ ?_ fun t5 s5 G5 hk5 => ?_
    · intro e
      have := hc.ne
      have e2 := congrArg Array.size e
      simp [byteArr] at e2
      exact this e2.1
    · intro c hcm
      have := List.mem_map_of_mem (f := (·.toNat)) hcm
      rw [byteArr_nats fun n hn => by have := hr n hn; omega] at this
      obtain ⟨n, hn, e⟩ := List.mem_map.mp this
      have := hr n hn
      omega
    · rw [sizeLine_eq]; unfold byteArr; rw [List.size_toArray, List.length_map]; omega
    refine GM.replace ?_
    refine callWith_method1 ?_
    refine spliced_more (Calls.Constant_str ?_)
    refine spliced_more (Calls.Constant_str ?_)
    refine spliced_none ?_
    refine SC.replace (by show s5.toks ≠ 0; omega) (by show s5.toks + 1 ≠ 0; omega) (by show s5.toks ≠ s5.toks + 1; omega) (by decide) ?_ fun t6 k6 => ?_
    · rw [show (Str.ofString "").length = 0 from rfl]
      show Array.size _ + _ ≤ _
      simp only [List.size_toArray, List.length_map, byteArr, Array.toList_map]
      omega
    generalize hX : Txt.replace _ _ _ = X
    have hx : X.cps.toList = ps.map fun p => (b64c p).toNat := by
      rw [← hX]
      exact text_of (pad := pad) hc.in64 rfl
    have hxs : X.cps.size = ps.length := by rw [← Array.length_toList, hx, List.length_map]
    clear hX
    refine srcS (G5.tok k6) hh ?_ (by rw [hxs, sizeLine_eq]; have := hc.len; omega) fun I s7 S => ?_
    · rw [Array.all_eq_true_iff_forall_mem]
      intro c hcm
      rw [← Array.mem_toList_iff, hx] at hcm
      obtain ⟨p, hp, rfl⟩ := List.mem_map.mp hcm
      have := sign_at (hc.in64 p hp).1 (hc.in64 p hp).2
      have e : (b64c p).toNat < 128 := by omega
      simpa using e
    refine ⟨I, _, _, _, _, fun o' => [(L + 1 + 1, o1'), (L + 1, o2), (L, o')], rfl, S, ⟨?_, ?_⟩, H0, fun o' => by walk_at "m_rep", ?_⟩
    · intro C oC i v s₃ m₃ E' hP HC hm G5 hk
      exact tst_nil (p := fun _ => true) (v := .none) rfl
    · intro C oC i v s₃ m₃ E' hP hp HC hm G5 hk
      obtain ⟨c, u, hcx, rfl⟩ := hP
      refine MethodCall_ ?_
      walk_at "m_e"
      refine GM.find ?_
      refine callWith_method1 ?_
      iterate 3 walk_at "m_e"
      refine SC.find ?_
      exact ⟨fun x' t' e => by cases e; exact ⟨_, rfl⟩, ⟨_, _, rfl, fun _ _ e => e⟩⟩
    · intro D' k' ys vs o' s8 hlen8 hP8 hF8 G8 H8
      refine ⟨rfl, o', _, D', k', ys, ps, pad, G8, H8, rfl, hc, ?_⟩
      have hR : Paired (fun p v => (0 ≤ p ∧ p < 64) ∧ ∃ u, v = .str ⟨#[(b64c p).toNat]⟩ u) ps vs := by
        refine paired_of_get (by rw [hlen8, hxs]) fun j v hj => ?_
        obtain ⟨c, u, hcx, rfl⟩ := hP8 j v hj
        rw [← Array.getElem?_toList, hx, List.getElem?_map] at hcx
        cases e : ps[j]? with
        | none => rw [e] at hcx; cases hcx
        | some p =>
          rw [e] at hcx
          cases hcx
          exact ⟨p, rfl, hc.in64 p (List.mem_of_getElem? e), u, rfl⟩
      have := paired_filter (F := fun v y => ∀ x t, v = .str x t → IsI (Txt.find SIGNS x) y) (pz := fun _ => true) (p := fun _ => true) (f := fun p : Int => p) (S := IsI) (fun _ _ _ => rfl) (fun p v y hr _ hf => by
        obtain ⟨hp, u, rfl⟩ := hr
        have := hf _ _ rfl
        rw [(sign_at hp.1 hp.2).1] at this
        exact this) hR hF8
      rw [List.filter_eq_self.mpr (fun _ _ => rfl), List.map_id'] at this
      exact ints_iff.mpr this
  rintro s3 ⟨oL', m', D', kD, vs, ps, pad, G3, H3, e3, hc, hi⟩
  have hl8 := hc.len
  have hvl : vs.length = ps.length := hi.length
  have hne : 0 < ps.length := List.length_pos_iff.mpr hc.ne
  refine seqRet ?_
  walk_at "m_e"
  refine compI (base := base) (s₀ := s) (kn := []) (fun _ => true) (fun p y => IsI (p + 64 + high) y) hh (by with_unfolding_all rfl) (by decide) rfl (by decide) rfl (by intro _; rfl) ?_
  refine' lSlice (base := base) (s₀ := s) ?_ (by intro _ _; rfl)
  walk_at "m_e"
  refine evalPart_none ?_
  refine evalPart_some ?_
  refine wpAny_UnaryOp ?_
  walk_at "m_e"
  refine iNeg (by assumption) fun t4 s4 G4 => ?_
  refine ⟨_, vs, _, none, some (-1), _, rfl, G4, by walk_at "m_kn", by rw [sizeLine_eq]; omega, .none, .int _ _, fun D5 s5 G5 => ?_⟩
  have hsl : (slicePick vs.toArray none (some (-1)) none).toList = vs.dropLast := by
    rw [show (-1 : Int) = -((1 : Nat) : Int) from rfl, slicePick_butLast _ _ (Nat.le_refl _)]
    simp [List.dropLast_eq_take]
  rw [hsl] at G5
  have hid : IntsAre vs.dropLast ps.dropLast := by
    rw [List.dropLast_eq_take, List.dropLast_eq_take, hvl]
    exact hi.take _
  refine ⟨_, _, G5, .list (by walk_at "m_kn") hid (by rw [sizeLine_eq, List.length_dropLast]; omega), ⟨?_, ?_⟩, ?_⟩
  · intro C oC a t s₃ m₃ E' ha HC hm G5 hk
    exact tst_nil (p := fun _ => true) (v := .none) rfl
  · intro C oC a t s₃ m₃ E' ha hp HC hm G5 hk
    iterate 7 walk_at "m_e"
    exact ⟨⟨_, rfl⟩, Pur.keeps (by assumption)⟩
  intro D6 k6 ys s6 hP G6
  have hP2 := ints_iff.mpr (paired_map (f := fun p : Int => p + 64 + high) hP)
  rw [List.filter_eq_self.mpr (fun _ _ => rfl)] at hP2
  refine List_ ?_
  refine spliced_more ?_
  iterate 3 walk_at "m_e"
  refine wpAny_UnaryOp ?_
  walk_at "m_e"
  refine iNeg (by assumption) fun t7 s7 G7 => ?_
  obtain ⟨tv, hv⟩ := ints_at hi (a := (ps.length : Int) - 1) (by omega) (by omega)
  have hlast : ps.getD ((ps.length : Int) - 1).toNat 0 = ps.getLastD 0 := by
    rw [show ((ps.length : Int) - 1).toNat = ps.length - 1 by omega, List.getLastD_eq_getLast?, List.getLast?_eq_getElem?, List.getD_eq_getElem?_getD]
  rw [hlast] at hv
  refine lNeg G7 (by walk_at "m_kn") (by decide) (by omega) (by decide) (by rw [show (-1 + (vs.length : Int)).toNat = ((ps.length : Int) - 1).toNat by omega]; exact hv) (by with_unfolding_all rfl) ?_
  iterate 3 walk_at "m_e"
  refine lNew (by assumption) (by rw [sizeLine_eq]; simp) fun D8 s8 G8 => ?_
  refine lAdd G8 (by walk_at "m_kn") (by walk_at "m_kn") ?_ fun D9 s9 G9 => ?_
  · rw [sizeLine_eq, hP2.length, List.length_map, List.length_dropLast]; simp; omega
  refine h D9 0 _ ps pad s9 hc ?_ (G9.sub (by walk_at "m_sub") fun p hp => hp)
  exact ints_snoc hP2 _ _
end

theorem Rep.self {d : Addr} {o : Obj} : ∀ {l l' : List (Addr × Obj)}, Rep d o o l l' → l' = l
  | _, _, .head => rfl
  | _, _, .tail r => by rw [r.self]
theorem Rep.mem' {d : Addr} {o o' : Obj} : ∀ {l l' : List (Addr × Obj)}, Rep d o o' l l' → (d, o') ∈ l'
  | _, _, .head => List.Mem.head _
  | _, _, .tail r => List.Mem.tail _ r.mem'
theorem Pur.perm {base : Heap} {s₀ s : Shared} {nw nw' kn : List (Addr × Obj)} (G : Pur base s₀ s nw kn) (p : nw'.Perm nw) : Pur base s₀ s nw' kn :=
  ⟨G.same, G.grow, G.st, G.known, fun q hq => G.made q (p.mem_iff.mp hq), (p.map _).nodup_iff.mpr G.nd⟩
-- ghosts of heaps, and what an exception does to frames
theorem ghost (h : Heap) (f : Addr → Option Obj) (hf : ∀ b o, f b = some o → b < h.objs.size ∧ o.isFreed = false) : ∃ h' : Heap, h'.objs.size = h.objs.size ∧ ∀ b, h'.get? b = f b := by
  refine ⟨⟨Array.ofFn (n := h.objs.size) fun i => (f i).getD ⟨.none, none, .freed, #[]⟩, h.life⟩, by simp, fun b => ?_⟩
  cases e : f b with
  | some o =>
    obtain ⟨h1, h2⟩ := hf b o e
    refine Heap.get?_some_iff.mpr ⟨?_, h2⟩
    simp [h1, e]
  | none =>
    cases q : Heap.get? ⟨Array.ofFn (n := h.objs.size) fun i => (f i).getD ⟨.none, none, .freed, #[]⟩, h.life⟩ b with
    | none => rfl
    | some o =>
      obtain ⟨h1, h2⟩ := Heap.get?_some_iff.mp q
      by_cases hb : b < h.objs.size
      · simp [hb, e] at h1
        rw [← h1] at h2
        cases h2
      · simp [hb] at h1
theorem hole (h : Heap) (a : Addr) : ∃ h' : Heap, ∀ b, h'.get? b = if b = a then none else h.get? b := by
  obtain ⟨h', _, e⟩ := ghost h (fun b => if b = a then none else h.get? b) fun b o e => by
    by_cases hb : b = a
    · simp [hb] at e
    · simp only [hb, if_false] at e
      exact ⟨Heap.lt_size e, (Heap.get?_some_iff.mp e).2⟩
  exact ⟨h', e⟩
theorem freed_slots {o : Obj} {sl : Array (Option Value)} : ({ o with slots := sl } : Obj).isFreed = o.isFreed := by
  obtain ⟨c, d, dt, s0⟩ := o
  cases dt <;> rfl
/-- an older heap, its frames turned as a later heap's were -/
theorem reslot {fs : List Addr} {h₀ h h' : Heap} (k : h₀.StaysIn h) (x : Heap.SlotsOnly fs h h') : ∃ h₀', Heap.SlotsOnly fs h₀ h₀' ∧ h₀'.StaysIn h' ∧ ∀ b, h₀.get? b = none → h₀'.get? b = none := by
  obtain ⟨h₀', hsz, e⟩ := ghost h₀ (fun b => if (h₀.get? b).isSome then h'.get? b else none) fun b o e => by
    cases q : h₀.get? b with
    | none => rw [q] at e; cases e
    | some o₀ =>
      rw [q] at e
      exact ⟨Heap.lt_size q, (Heap.get?_some_iff.mp e).2⟩
  refine ⟨h₀', ⟨hsz, fun b hb => ?_, fun b o hb => ?_⟩, fun b o hb => ?_, fun b hb => ?_⟩
  · rw [e]
    cases q : h₀.get? b with
    | none => rfl
    | some o₀ => simp only [Option.isSome_some, if_true]; rw [x.2.1 b hb, k _ _ q]
  · obtain ⟨sl, hs⟩ := x.2.2 b o (k _ _ hb)
    refine ⟨sl, ?_⟩
    rw [e, hb]
    exact hs
  · rw [e] at hb
    cases q : h₀.get? b with
    | none => rw [q] at hb; cases hb
    | some o₀ => rw [q] at hb; exact hb
  · rw [e, hb]; rfl

abbrev frs (A : Around) : List Addr := (A.frames.getD []).filterMap (·.frame)
theorem Cx.frames {base : Heap} {w : World} {A : Around} {h : Heap} {n : Nat} (C : Cx base w A h n) : ∀ b ∈ frs A, base.get? b = none ∧ ∃ o es k, h.get? b = some o ∧ o.data = .dict es k := by
  obtain ⟨outer, h1, h2, h3⟩ := C.fr
  intro b hb
  rw [frs, h1] at hb
  exact ⟨(h2.mem hb).1, h3 b hb⟩
theorem Cx.ff {base : Heap} {w : World} {A : Around} {h : Heap} {n : Nat} {l : List Env} (C : Cx base w A h n) (e : A.frames = some l) : h.FunFrames base l := by
  obtain ⟨outer, h1, h2, h3⟩ := C.fr
  rw [e] at h1
  cases h1
  exact h2
theorem Cx.slots {base : Heap} {w : World} {A : Around} {h h' : Heap} {n : Nat} (C : Cx base w A h n) (x : Heap.SlotsOnly (frs A) h h') : Cx base w A h' n := by
  have hb := C.frames
  obtain ⟨outer, h1, h2, h3⟩ := C.fr
  refine ⟨C.X, C.T, fun b o e => (x.2.1 b fun q => by rw [(hb b q).1] at e; cases e).trans (C.st b o e), ⟨outer, h1, h2.of_slotsOnly x, fun b hm => ?_⟩, C.hh, C.dep, C.un⟩
  obtain ⟨o, es, k, ho, hd⟩ := h3 b hm
  obtain ⟨sl, hs⟩ := x.2.2 b o ho
  exact ⟨_, es, k, hs, hd⟩
/-- an own fields object may be taken out of what a call begins with -/
theorem Cx.hole {base : Heap} {w : World} {A : Around} {h h' : Heap} {n : Nat} {a : Addr} {o : Obj} {xs : Array Value} (C : Cx base w A h n) (hb : base.get? a = none) (ho : h.get? a = some o) (hd : o.data = .fields xs)
    (e : ∀ b, h'.get? b = if b = a then none else h.get? b) : Cx base w A h' n := by
  obtain ⟨outer, h1, h2, h3⟩ := C.fr
  have k : ∀ b z, b ≠ a → h.get? b = some z → h'.get? b = some z := fun b z hne hz => by rw [e, if_neg hne]; exact hz
  refine ⟨C.X, C.T, fun b z hz => k b z (fun q => by rw [q, hb] at hz; cases hz) (C.st b z hz), ⟨outer, h1, h2.of_keeps fun b z hz hnf => ⟨z, k b z (fun q => ?_) hz, rfl⟩, fun b hm => ?_⟩, C.hh, C.dep, C.un⟩
  · rw [q, ho] at hz; cases hz; exact hnf xs hd
  · obtain ⟨z, es, j, hz, hdz⟩ := h3 b hm
    exact ⟨z, es, j, k b z (fun q => by rw [q, ho] at hz; cases hz; rw [hd] at hdz; cases hdz) hz, hdz⟩

theorem Cx.keepsBut {base : Heap} {w : World} {A : Around} {h h' : Heap} {n : Nat} {a : Addr} {o : Obj} {xs : Array Value} (C : Cx base w A h n) (ho : h.get? a = some o) (hd : o.data = .fields xs) (hb : base.get? a = none)
    (k : ∀ b z, b ≠ a → h.get? b = some z → h'.get? b = some z) : Cx base w A h' n := by
  obtain ⟨outer, h1, h2, h3⟩ := C.fr
  refine ⟨C.X, C.T, fun b z hz => k b z (fun q => by rw [q, hb] at hz; cases hz) (C.st b z hz), ⟨outer, h1, h2.of_keeps fun b z hz hnf => ⟨z, k b z (fun q => ?_) hz, rfl⟩, fun b hm => ?_⟩, C.hh, C.dep, C.un⟩
  · rw [q, ho] at hz; cases hz; exact hnf xs hd
  · obtain ⟨z, es, j, hz, hdz⟩ := h3 b hm
    exact ⟨z, es, j, k b z (fun q => by rw [q, ho] at hz; cases hz; rw [hd] at hdz; cases hdz) hz, hdz⟩
/-- frames turned: the record goes on from an older state whose frames are turned alike -/
theorem Pur.slots {base : Heap} {s₀ s : Shared} {nw kn : List (Addr × Obj)} {h' : Heap} {fs : List Addr} {L : Addr} {oL : Obj} (G : Pur base s₀ s nw kn) (x : Heap.SlotsOnly (L :: fs) s.heap h') (hb : ∀ b ∈ fs, base.get? b = none ∧ ∃ o es k, s₀.heap.get? b = some o ∧ o.data = .dict es k)
    (hkn : ∀ p ∈ kn, ∀ es k, p.2.data ≠ .dict es k) {g : Obj → List (Addr × Obj)} (R : ∀ o', Rep L oL o' nw (g o')) :
    ∃ s₀' sl, s₀' = { s₀ with heap := s₀'.heap } ∧ Heap.SlotsOnly fs s₀.heap s₀'.heap ∧ Pur base s₀' { s with heap := h' } (g { oL with slots := sl }) kn := by
  have hL := G.made _ (R oL).mem
  obtain ⟨h₀', y, st, hno⟩ := reslot G.grow x
  have y' : Heap.SlotsOnly fs s₀.heap h₀' := by
    refine ⟨y.1, fun b hb => ?_, y.2.2⟩
    by_cases hbL : b = L
    · rw [hbL, hno _ hL.2, hL.2]
    · exact y.2.1 b fun q => by
        rcases List.mem_cons.mp q with q | q
        · exact hbL q
        · exact hb q
  obtain ⟨sl, hsl⟩ := x.2.2 L oL hL.1
  refine ⟨{ s₀ with heap := h₀' }, sl, rfl, y', ?_, st, fun b o e => ?_, fun p hp => ?_, fun p hp => ?_, by rw [(R _).keys]; exact G.nd⟩
  · obtain ⟨h1, t1, rfl⟩ := G.same
    exact ⟨_, _, rfl⟩
  · rw [show ({ s₀ with heap := h₀' } : Shared).heap = h₀' from rfl, y'.2.1 b fun q => by rw [(hb b q).1] at e; cases e]
    exact G.st _ _ e
  · rw [show ({ s₀ with heap := h₀' } : Shared).heap = h₀' from rfl, y'.2.1 p.1 fun q => ?_]
    · exact G.known p hp
    · obtain ⟨_, o, es, k, ho, hd⟩ := hb _ q
      rw [G.known p hp] at ho
      cases ho
      exact hkn p hp es k hd
  · rcases (R _).of_mem G.nd p hp with rfl | ⟨hp, hne⟩
    · exact ⟨hsl, hno _ hL.2⟩
    · have hm := G.made p hp
      refine ⟨?_, hno _ hm.2⟩
      show h'.get? p.1 = some p.2
      rw [x.2.1 p.1 fun q => ?_]
      · exact hm.1
      · rcases List.mem_cons.mp q with q | q
        · exact hne q
        · obtain ⟨_, o, es, k, ho, hd⟩ := hb _ q
          rw [hm.2] at ho; cases ho

section
variable {prog : Program} {w : World} {A : Around} {E : Value → Shared → Prop} {base : Heap} {s₀ s : Shared} {nw kn : List (Addr × Obj)} {env : Env} {l D I : Addr} {vs : List Value} {k : Nat} {Q : Value → Shared → Prop}
theorem itL (G : Pur base s₀ s nw kn) (hm : (l, lst vs k) ∈ nw ∨ (l, lst vs k) ∈ kn) (h : ∀ I oI s', LI oI l 0 → Pur base s₀ s' ((I, oI) :: nw) kn → Q (.ref I) s') : wpAny (model prog w) A (call (.builtin "iter") [.ref l]) Q E s := by
  refine call_function_entry (by decide +kernel) (by decide +kernel) kdk_entry_iter (kdk_args_iter _) ?_
  unfold Builtin.«iter»
  refine wpAny_bind (m := someArgs "iter" 1 2 _) (wpAny_of_eq (a := [Value.ref l]) (by first | rfl | kernel_rfl!) ?_)
  show wpAny _ _ (pyIter (.ref l) >>= _) _ _ _
  refine wpAny_bind (wpAny_pyIter_list (G.list hm) ?_)
  exact wpAny_pure ⟨_, rfl, h _ _ _ ⟨rfl, rfl⟩ (G.push rfl)⟩
theorem nxtItem {oI : Obj} {i : Nat} {v : Value} (G : Pur base s₀ s nw kn) (g : Obj → List (Addr × Obj)) (hI : LI oI l i) (R : ∀ o', Rep I oI o' nw (g o')) (hm : (l, lst vs k) ∈ nw ∨ (l, lst vs k) ∈ kn) (hx : vs[i]? = some v)
    (h : ∀ o' s', LI o' l (i + 1) → Pur base s₀ s' (g o') kn → Q v s') : wpAny (model prog w) A (call (.builtin "next") [.ref I]) Q E s := by
  have ho := G.get (.inl (R oI).mem)
  have hol := G.get hm
  have hit : s.heap.IsListIter I l i := ⟨oI, ho, hI.cls, hI.data⟩
  have hd := hI.data
  refine call_function_entry (by decide +kernel) (by decide +kernel) kdk_entry_next (kdk_args_next _) ?_
  unfold Builtin.«next»
  refine wpAny_bind (m := someArgs "next" 1 2 _) (wpAny_of_eq (a := [Value.ref I]) (by first | rfl | kernel_rfl!) ?_)
  dsimp only
  refine wpAny_bind (wpAny_specialOf (name := Str.ofString "__next__") hit.typeIs slot_listiter_next.lookup ?_)
  refine wpAny_ite_split (fun hab => absurd hab (by decide)) (fun _ => ?_)
  refine wpAny_bind (wpAny_callSpecial?_slot (name := Str.ofString "__next__") hit.typeIs slot_listiter_next
    (wpAny_call_entry slot_listiter_next hit.typeIs entry_listiter_next ?_ (args_listiter_next _)))
  show wpAny _ _ (field (.ref I) 0 >>= _) _ _ s
  refine wpAny_bind (wpAny_field ho hd (x := .ref l) rfl ?_)
  show wpAny _ _ (if (Value.ref l == Value.none) = true then _ else _) _ _ s
  rw [if_neg (show ¬ ((Value.ref l == Value.none) = true) from Bool.false_ne_true)]
  show wpAny _ _ (field (.ref I) 1 >>= _) _ _ s
  refine wpAny_bind (wpAny_field ho hd (x := .int i 0) rfl ?_)
  show wpAny _ _ (seqItems? (.ref l) >>= _) _ _ s
  refine wpAny_bind (wpAny_seqItems hol rfl ?_)
  have hx' : vs.toArray[i]? = some v := by simpa using hx
  simp only [Int.toNat_natCast, hx']
  refine wpAny_bind (wpAny_setField ho hd (by simp) (wpAny_pure ⟨v, rfl, wpAny_pure ⟨_, rfl, h _ _ ?_ (G.change (R _) ⟨_, _, rfl⟩ (fun b z hb e => (Heap.SameBut.update ..).extBut b z hb e) (Heap.get?_update_self _ ho (Obj.isFreed_of_fields (Obj.data_mapFields hd _))))⟩⟩))
  exact ⟨(Obj.cls_mapFields ..).trans hI.cls, by rw [Obj.data_mapFields hd]; simp [rawInt]⟩
/-- an exception object, just made -/
structure NewX (o : Obj) (cls : String) (x : Value) : Prop where
  cls : o.cls = .type cls
  data : ∃ vs : Array Value, o.data = .fields vs ∧ vs[1]? = some .none ∧ vs[2]? = some x
theorem nxtStop {oI : Obj} {i : Nat} {nw' : List (Addr × Obj)} (G : Pur base s₀ s nw kn) (hh : A.handled = none) (hI : LI oI l i) (R : Del I oI nw nw') (hm : (l, lst vs k) ∈ nw ∨ (l, lst vs k) ∈ kn) (hx : vs.length ≤ i)
    (h : ∀ e oe s', NewX oe "StopIteration" .none → Pur base s₀ s' ((e, oe) :: nw') kn → E (.ref e) s') : wpAny (model prog w) A (call (.builtin "next") [.ref I]) Q E s := by
  have ho := G.get (.inl R.mem)
  have hol := G.get hm
  have hit : s.heap.IsListIter I l i := ⟨oI, ho, hI.cls, hI.data⟩
  have hd := hI.data
  refine call_function_entry (by decide +kernel) (by decide +kernel) kdk_entry_next (kdk_args_next _) ?_
  unfold Builtin.«next»
  refine wpAny_bind (m := someArgs "next" 1 2 _) (wpAny_of_eq (a := [Value.ref I]) (by first | rfl | kernel_rfl!) ?_)
  dsimp only
  refine wpAny_bind (wpAny_specialOf (name := Str.ofString "__next__") hit.typeIs slot_listiter_next.lookup ?_)
  refine wpAny_ite_split (fun hab => absurd hab (by decide)) (fun _ => ?_)
  refine wpAny_bind (wpAny_callSpecial?_slot (name := Str.ofString "__next__") hit.typeIs slot_listiter_next
    (wpAny_call_entry slot_listiter_next hit.typeIs entry_listiter_next ?_ (args_listiter_next _)))
  show wpAny _ _ (field (.ref I) 0 >>= _) _ _ s
  refine wpAny_bind (wpAny_field ho hd (x := .ref l) rfl ?_)
  show wpAny _ _ (if (Value.ref l == Value.none) = true then _ else _) _ _ s
  rw [if_neg (show ¬ ((Value.ref l == Value.none) = true) from Bool.false_ne_true)]
  show wpAny _ _ (field (.ref I) 1 >>= _) _ _ s
  refine wpAny_bind (wpAny_field ho hd (x := .int i 0) rfl ?_)
  show wpAny _ _ (seqItems? (.ref l) >>= _) _ _ s
  refine wpAny_bind (wpAny_seqItems hol rfl ?_)
  have hx' : vs.toArray[i]? = none := by simpa using hx
  simp only [Int.toNat_natCast, hx']
  refine wpAny_bind (wpAny_rule (wpAny_bind (wpAny_setField ho hd (by simp) ?_)))
  have G1 := G.forget (s' := { s with heap := s.heap.update I (Obj.mapFields (·.setIfInBounds 0 Value.none)) }) R ⟨_, _, rfl⟩ (fun b z hb e => (Heap.SameBut.update ..).extBut b z hb e)
  show wpAny _ _ (newExc (.type "StopIteration") [] >>= _) _ _ _
  refine wpAny_bind ?_
  simp only [newExc, newTuple]
  refine wpAny_bind (wpAny_newObj_type ?_ (by size_fits))
  have G2 := G1.push (o := { cls := .type "tuple", data := .seq ([] : List Value).toArray }) rfl
  refine wpAny_bind (m := firstArgMember _ _) (wpAny_of_eq (a := Value.none) (by first | rfl | (simp only [firstArgMember]; rfl)) ?_)
  refine wpAny_newObj_type ?_ (by size_fits)
  simp only [raiseNew]
  refine wpAny_bind (wpAny_handled ?_)
  rw [show A.in1.handled = none from hh]
  refine wpAny_bind (wpAny_pure (wpAny_throw ?_))
  refine h _ _ _ ?_ ((G2.push rfl).sub (List.Sublist.cons_cons _ (List.sublist_cons_self _ _)) fun p hp => hp)
  exact ⟨rfl, _, rfl, by rw [Array.getElem?_append_left (by simp)]; rfl, by rw [Array.getElem?_append_left (by simp)]; rfl⟩
end

/-- an exception object that has its traceback -/
structure Trc (oe : Obj) (T : Addr) (oT : Obj) (fl : Value) (cls : String) (x : Value) : Prop where
  cls : oe.cls = .type cls
  data : ∃ vs : Array Value, oe.data = .fields vs ∧ vs[1]? = some (.ref T) ∧ vs[2]? = some x
  tb : ∃ ts : Array Value, oT.data = .fields ts ∧ ts[3]? = some fl

section
variable {prog : Program} {w : World} {A : Around} {E : Value → Shared → Prop} {base : Heap} {s₀ s : Shared} {nw kn : List (Addr × Obj)} {env : Env} {outer : List Env} {L e T : Addr} {oL oe oT : Obj} {Q : Unit → Shared → Prop} {n : Nat} {cls : String} {x : Value}
/-- a new entry of the traceback -/
theorem newEntryP {head : Value} {had : Bool} {vs : Array Value} (q2 : s.heap.FunFrames base (env :: outer)) (hf0 : ∀ b ∈ outer.filterMap (·.frame), base.get? b = none ∧ ∃ o es k, s₀.heap.get? b = some o ∧ o.data = .dict es k) (G : Pur base s₀ s nw kn)
    (hfr : A.frames = some (env :: outer)) (hf : env.frame = some L) (hkn : ∀ p ∈ kn, ∀ es k, p.2.data ≠ .dict es k)
    (g : Obj → List (Addr × Obj)) (R : ∀ o', Rep L oL o' nw (g o')) (gg : Obj → Obj → List (Addr × Obj)) (RR : ∀ o' x', Rep e oe x' (g o') (gg o' x'))
    (hcls : oe.cls = .type cls) (hd : oe.data = .fields vs) (hsz : 1 < vs.size) (h2 : vs[2]? = some x)
    (h : ∀ s₀' sl oe' T oT s', s₀' = { s₀ with heap := s₀'.heap } → Heap.SlotsOnly (outer.filterMap (·.frame)) s₀.heap s₀'.heap → Trc oe' T oT (rawInt L) cls x → Pur base s₀' s' ((T, oT) :: gg { oL with slots := sl } oe') kn → Q () s') :
    wpAny (model prog w) A (do let a ← frameOf env; let pl ← entryPlaceOf L had; let b ← EntryCells.newEntry head a .none (rawInt L) .none pl; setField (.ref e) 1 b) Q E s := by
  refine wpAny_bind (wpAny_frameOf_fun hfr q2 hf fun h₁ hs₁ => ?_)
  rw [List.filterMap_cons, hf] at hs₁
  obtain ⟨s₀', sl, e0, y, G1⟩ := G.slots hs₁ hf0 hkn R
  refine wpAny_bind (wpAny_entryPlaceOf fun pl hpl => ?_)
  unfold EntryCells.newEntry newFields
  refine wpAny_bind (wpAny_newObj_type ?_ (hpl.sizeOk5 _ _ _ _ _))
  have G2 := G1.push (o := { cls := .type "traceback", dict := none, data := .fields ([head, .ref L, .none, rawInt L, .none] ++ (if pl.isEmpty then List.replicate 6 Value.none else pl)).toArray }) rfl
  have RT := fun x' => Rep.tail (p := (({ s with heap := h₁ } : Shared).heap.objs.size, ({ cls := .type "traceback", dict := none, data := .fields ([head, .ref L, .none, rawInt L, .none] ++ (if pl.isEmpty then List.replicate 6 Value.none else pl)).toArray } : Obj))) (RR { oL with slots := sl } x')
  have he := G2.get (.inl (RT oe).mem)
  refine wpAny_setField he hd hsz ?_
  have hd₃ := Obj.data_mapFields hd (·.setIfInBounds 1 (Value.ref h₁.objs.size))
  refine h s₀' sl _ _ _ _ e0 y ⟨(Obj.cls_mapFields ..).trans hcls, ⟨_, hd₃, by simp [hsz], ?_⟩, ⟨_, rfl, by simp⟩⟩ (G2.change (RT _) ⟨_, _, rfl⟩ (fun b z hb q => (Heap.SameBut.update ..).extBut b z hb q) (Heap.get?_update_self _ he (Obj.isFreed_of_fields hd₃)))
  rw [Array.getElem?_setIfInBounds]
  simp [h2]
theorem note1 (q2 : s.heap.FunFrames base (env :: outer)) (hf0 : ∀ b ∈ outer.filterMap (·.frame), base.get? b = none ∧ ∃ o es k, s₀.heap.get? b = some o ∧ o.data = .dict es k) (G : Pur base s₀ s nw kn)
    (hfr : A.frames = some (env :: outer)) (hf : env.frame = some L) (hkn : ∀ p ∈ kn, ∀ es k, p.2.data ≠ .dict es k)
    (g : Obj → List (Addr × Obj)) (R : ∀ o', Rep L oL o' nw (g o')) (gg : Obj → Obj → List (Addr × Obj)) (RR : ∀ o' x', Rep e oe x' (g o') (gg o' x')) (hx : NewX oe cls x)
    (h : ∀ s₀' sl oe' T oT s', s₀' = { s₀ with heap := s₀'.heap } → Heap.SlotsOnly (outer.filterMap (·.frame)) s₀.heap s₀'.heap → Trc oe' T oT (rawInt L) cls x → Pur base s₀' s' ((T, oT) :: gg { oL with slots := sl } oe') kn → Q () s') :
    wpAny (model prog w) A (noteFrame (.ref e) env) Q E s := by
  obtain ⟨vs, hd, h1, h2⟩ := hx.data
  have he : s.heap.get? e = some oe := by
    have : (e, oe) ∈ nw := by
      have := (RR oL oe).mem
      rwa [(R oL).self] at this
    exact G.get (.inl this)
  unfold noteFrame
  simp only [hf]
  refine wpAny_bind (wpAny_field he hd h1 ?_)
  rw [if_neg (by decide)]
  exact newEntryP q2 hf0 G hfr hf hkn g R gg RR hx.cls hd (Array.getElem?_eq_some_iff.mp h1).1 h2 h
theorem note2 (q2 : s.heap.FunFrames base (env :: outer)) (hf0 : ∀ b ∈ outer.filterMap (·.frame), base.get? b = none ∧ ∃ o es k, s₀.heap.get? b = some o ∧ o.data = .dict es k) (G : Pur base s₀ s nw kn)
    (hfr : A.frames = some (env :: outer)) (hf : env.frame = some L) (hkn : ∀ p ∈ kn, ∀ es k, p.2.data ≠ .dict es k) {nw' : List (Addr × Obj)} (RT : Del T oT nw nw')
    (g : Obj → List (Addr × Obj)) (R : ∀ o', Rep L oL o' nw' (g o')) (gg : Obj → Obj → List (Addr × Obj)) (RR : ∀ o' x', Rep e oe x' (g o') (gg o' x')) (hx : Trc oe T oT .none cls x)
    (h : ∀ s₀' sl oe' T oT s', s₀' = { s₀ with heap := s₀'.heap } → Heap.SlotsOnly (outer.filterMap (·.frame)) s₀.heap s₀'.heap → Trc oe' T oT (rawInt L) cls x → Pur base s₀' s' ((T, oT) :: gg { oL with slots := sl } oe') kn → Q () s') :
    wpAny (model prog w) A (noteFrame (.ref e) env) Q E s := by
  obtain ⟨vs, hd, h1, h2⟩ := hx.data
  obtain ⟨ts, hdT, h3⟩ := hx.tb
  have hem : (e, oe) ∈ nw' := by
    have := (RR oL oe).mem
    rwa [(R oL).self] at this
  have he : s.heap.get? e = some oe := G.get (.inl (RT.sub.subset hem))
  have hT := G.get (.inl RT.mem)
  unfold noteFrame
  simp only [hf]
  refine wpAny_bind (wpAny_field he hd h1 ?_)
  rw [if_pos (show (Value.ref T != Value.none) = true from by simp)]
  refine wpAny_bind (wpAny_field hT hdT h3 ?_)
  rw [if_neg (show ¬ ((Value.none == rawInt L) = true) from by simp [rawInt])]
  refine wpAny_bind (wpAny_setField hT hdT (Array.getElem?_eq_some_iff.mp h3).1 ?_)
  have G1 := G.forget (s' := { s with heap := s.heap.update T (Obj.mapFields (·.setIfInBounds 3 Value.none)) }) RT ⟨_, _, rfl⟩ (fun b z hb e => (Heap.SameBut.update ..).extBut b z hb e)
  refine newEntryP (s := { s with heap := s.heap.update T (Obj.mapFields (·.setIfInBounds 3 Value.none)) }) (q2.of_keeps fun b z hz hnf => ⟨z, (Heap.SameBut.update ..).extBut b z (fun q => by rw [q, hT] at hz; cases hz; exact hnf ts hdT) hz, rfl⟩) hf0 G1 hfr hf hkn g R gg RR hx.cls hd (Array.getElem?_eq_some_iff.mp h1).1 h2 h
theorem noteOn (G : Pur base s₀ s nw kn) (hf : env.frame = some L) (he : (e, oe) ∈ nw) (hT : (T, oT) ∈ nw) (hx : Trc oe T oT (rawInt L) cls x) (h : Q () s) : wpAny (model prog w) A (noteFrame (.ref e) env) Q E s := by
  obtain ⟨vs, hd, h1, _⟩ := hx.data
  obtain ⟨ts, hdT, h3⟩ := hx.tb
  exact wpAny_noteFrame_inFlight hf (G.get (.inl he)) hd h1 (G.get (.inl hT)) hdT h3 h
theorem grounded {fl : Value} (G : Pur base s₀ s nw kn) (he : (e, oe) ∈ nw) (g : Obj → List (Addr × Obj)) (R : ∀ o', Rep T oT o' nw (g o')) (hx : Trc oe T oT fl cls x) (h : ∀ oT' s', Trc oe T oT' .none cls x → Pur base s₀ s' (g oT') kn → Q () s') :
    wpAny (model prog w) A (setFlight (.ref e) none) Q E s := by
  obtain ⟨vs, hd, h1, h2⟩ := hx.data
  obtain ⟨ts, hdT, h3⟩ := hx.tb
  have hT := G.get (.inl (R oT).mem)
  have h3' := (Array.getElem?_eq_some_iff.mp h3).1
  have hd' := Obj.data_mapFields hdT (·.setIfInBounds 3 Value.none)
  refine wpAny_setFlight_none (G.get (.inl he)) hd h1 hT hdT h3' (h _ _ ⟨hx.cls, ⟨vs, hd, h1, h2⟩, ⟨_, hd', by simp [h3']⟩⟩ (G.change (R _) ⟨_, _, rfl⟩ (fun b z hb q => (Heap.SameBut.update ..).extBut b z hb q) (Heap.get?_update_self _ hT (Obj.isFreed_of_fields hd'))))
theorem leave1 (q2 : s.heap.FunFrames base (env :: outer)) (hf0 : ∀ b ∈ outer.filterMap (·.frame), base.get? b = none ∧ ∃ o es k, s₀.heap.get? b = some o ∧ o.data = .dict es k) (G : Pur base s₀ s nw kn)
    (hfr : A.frames = some (env :: outer)) (hf : env.frame = some L) (hkn : ∀ p ∈ kn, ∀ es k, p.2.data ≠ .dict es k)
    (g : Obj → List (Addr × Obj)) (R : ∀ o', Rep L oL o' nw (g o')) (gg : Obj → Obj → List (Addr × Obj)) (RR : ∀ o' x', Rep e oe x' (g o') (gg o' x')) (hx : NewX oe cls x)
    (h : ∀ s₀' sl oe' T oT s', s₀' = { s₀ with heap := s₀'.heap } → Heap.SlotsOnly (outer.filterMap (·.frame)) s₀.heap s₀'.heap → Trc oe' T oT .none cls x → Pur base s₀' s' ((T, oT) :: gg { oL with slots := sl } oe') kn → Q () s') :
    wpAny (model prog w) A (leaving env (.ref e)) Q E s := by
  unfold leaving
  refine wpAny_bind (note1 q2 hf0 G hfr hf hkn g R gg RR hx fun s₀' sl oe' T oT s' e0 y hT G' => ?_)
  have hem : (e, oe') ∈ gg { oL with slots := sl } oe' := (RR { oL with slots := sl } oe').mem'
  exact grounded G' (List.mem_cons_of_mem _ hem) (fun o' => (T, o') :: gg { oL with slots := sl } oe') (fun o' => .head) hT fun oT' s2 hT' G2 => h s₀' sl oe' T oT' s2 e0 y hT' G2
end

section
variable {prog : Program} {w : World} {A : Around} {s₀ s : Shared} {base : Heap} {n : Nat} {R : Result → Shared → Prop} {name qual : Str} {params : Arguments} {body : List Stmt} {scope : Scope} {dV kV doc pm cdv ct oc : Value} {an od : Option Addr} {osl : Array (Option Value)}
  {f : Addr} {args : Args} {binds : List (Str × Value)} {nw kn : List (Addr × Obj)}
/-- a call that begins where some objects are its own already -/
theorem enterG (C : Cx base w A s₀.heap (n + 1)) (G0 : Pur base s₀ s nw kn) (ho : (KF w).lookup f = some ⟨oc, od, .func (fnOf name qual params body scope dV kV doc pm an cdv ct), osl⟩) (hcd : codeIn (KF w) cdv qual = true)
    (hbind : BindsTo s (fnOf name qual params body scope dV kV doc pm an cdv ct) args binds) (hloc : (binds.all fun x => decide (scope.names.lookup x.1 = some .local)) = true)
    (hcell : ∀ x ∈ scope.names, x.2 ≠ .cell) (hco : scope.isCoroutine = false) (hgen : scope.isGenerator = false) (hk : scope.kind = .function)
    (h : ∀ L oL s₁, Pur base s₀ s₁ ((L, oL) :: nw) kn → NsO oL (fun y => binds.reverse.lookup y) → Deep base w (A.deeper (envX qual scope L f cdv [])) s₀ kn L n →
      wpAny (model prog w) (A.deeper (envX qual scope L f cdv [])) (execs body (envX qual scope L f cdv []))
        (fun fl s' => R (.ok (.ret (match fl with | .ret v => v | _ => .none))) s')
        (fun e s' => wpAny (model prog w) (A.deeper (envX qual scope L f cdv [])) (leaving (envX qual scope L f cdv []) e) (fun _ s'' => R (.error e) s'') (fun e' s'' => R (.error e') s'') s') s₁) :
    codeAny (model prog w) A (.call (.ref f) args) R s := by
  obtain ⟨p, loose, mean, mg, mb, T⟩ := C.T
  have X := C.X.keeps G0.based
  have hn : s.heap.get? s.heap.objs.size = none := Heap.get?_none_of_le (Nat.le_refl _)
  refine codeAny_call_def (fd := fnOf name qual params body scope dV kV doc pm an cdv ct) (body := body) (binds := binds) (by have := C.dep; omega) (X _ _ ho) rfl (T.nolimit.keeps G0.based) (codeRec_of X hcd) rfl hbind hcell (locs hloc) (fun h₁ hns hk₁ => ?_) hco hgen hk
  obtain ⟨oL, hoL, H⟩ := ns_o hns
  exact h _ oL _ (Pur.new (s := s) G0 ⟨_, _, rfl, hk₁⟩ hn hoL) H (Deep.of C rfl hk)
end

-- plain: the bits of a marked place
theorem bits_all : ∀ n : Fin 256, Builtin.bitAnd (n.val : Int) 63 = ((n.val % 64 : Nat) : Int) ∧ (Builtin.bitAnd (n.val : Int) 64 != 0) = ((n.val / 64 % 2) == 1) := by decide +kernel
theorem bits63 {p c : Int} (h0 : 0 ≤ p) (h1 : p < 64) (hc : c = 0 ∨ c = 64 ∨ c = 128 ∨ c = 192) : Builtin.bitAnd (p + c) 63 = p := by
  have := (bits_all ⟨(p + c).toNat, by omega⟩).1
  simp only at this
  rw [show (((p + c).toNat : Nat) : Int) = p + c by omega] at this
  rw [this]; omega
theorem bits64 {p c : Int} (h0 : 0 ≤ p) (h1 : p < 64) (hc : c = 0 ∨ c = 64 ∨ c = 128 ∨ c = 192) : (Builtin.bitAnd (p + c) 64 != 0) = (c == 64 || c == 192) := by
  have := (bits_all ⟨(p + c).toNat, by omega⟩).2
  simp only at this
  rw [show (((p + c).toNat : Nat) : Int) = p + c by omega] at this
  rw [this]
  rcases hc with rfl | rfl | rfl | rfl
  · rw [show (p + 0).toNat / 64 % 2 = 0 by omega]; rfl
  · rw [show (p + 64).toNat / 64 % 2 = 1 by omega]; rfl
  · rw [show (p + 128).toNat / 64 % 2 = 0 by omega]; rfl
  · rw [show (p + 192).toNat / 64 % 2 = 1 by omega]; rfl
theorem marked_len {ps : List Int} {high : Int} (h : ps ≠ []) : (marked ps high).length = ps.length := by
  have := List.length_pos_iff.mpr h
  simp [marked]; omega
/-- the j-th of the marked -/
theorem marked_at {ps : List Int} {high : Int} (hh : high = 0 ∨ high = 128) {j : Nat} (hj : j < ps.length) : ∃ c, (marked ps high)[j]? = some (ps.getD j 0 + c) ∧ (c = 0 ∨ c = 64 ∨ c = 128 ∨ c = 192) ∧ ((c == 64 || c == 192) = decide (j + 1 < ps.length)) := by
  unfold marked
  by_cases hl : j + 1 < ps.length
  · refine ⟨64 + high, ?_, by rcases hh with rfl | rfl <;> decide, by rcases hh with rfl | rfl <;> simp [hl]⟩
    rw [List.getElem?_append_left (by simp; omega), List.getElem?_map, List.dropLast_eq_take, List.getElem?_take, if_pos (by omega)]
    simp [hj]; omega
  · refine ⟨high, ?_, by rcases hh with rfl | rfl <;> decide, by rcases hh with rfl | rfl <;> simp [hl]⟩
    rw [List.getElem?_append_right (by simp; omega)]
    simp only [List.length_map, List.length_dropLast]
    rw [show j - (ps.length - 1) = 0 by omega]
    simp only [List.getElem?_cons_zero, List.getLastD_eq_getLast?, List.getLast?_eq_getElem?, List.getD_eq_getElem?_getD]
    rw [show ps.length - 1 = j by omega]
theorem pow64_small {j : Nat} (h : j ≤ 8) : (64 : Int) ^ j ≤ 281474976710656 := by
  match j, h with
  | 0, _ | 1, _ | 2, _ | 3, _ | 4, _ | 5, _ | 6, _ | 7, _ | 8, _ => decide
theorem val64_lt {ps : List Int} (h : ∀ p ∈ ps, 0 ≤ p ∧ p < 64) (j : Nat) : val64 (ps.take j) < 64 ^ j := by
  induction j with
  | zero => simp [val64]
  | succ j ih =>
    rw [List.take_add_one]
    cases e : ps[j]? with
    | none =>
      have : (64 : Int) ^ j ≤ 64 ^ (j + 1) := by rw [Int.pow_succ]; have := Int.pow_pos (n := (64 : Int)) (m := j) (by decide); omega
      simp; omega
    | some p =>
      have := h p (List.mem_of_getElem? e)
      simp only [Option.toList_some]
      rw [val64_snoc, Int.pow_succ]
      omega

section
variable {prog : Program} {w : World} {A : Around} {E : Value → Shared → Prop} {base : Heap} {s : Shared} {Q : Value → Shared → Prop}
theorem ldLoc {s₀ : Shared} {nw kn : List (Addr × Obj)} {env : Env} {m : Str → Option Value} {oL : Obj} {x : Str} {v : Value} (G : Pur base s₀ s nw kn) (hm : (env.locals, oL) ∈ nw ∨ (env.locals, oL) ∈ kn) (H : NsO oL m) (hv : m x = some v) (hk : env.scope.kind = .function) (hx : env.kindOf x = some .local) (h : Q v s) :
    wpAny (model prog w) A (loadName env x) Q E s := wpAny_loadName_local hk hx (H.ns (G.get hm)) hv h
/-- what a call leaves behind that has drawn from an iterator -/
structure Drawn1 (s s' : Shared) (it : Addr) (o' : Obj) : Prop where
  same : ∃ h tk, s' = { s with heap := h, toks := tk }
  here : s'.heap.get? it = some o'
  keep : ∀ b x, b ≠ it → s.heap.get? b = some x → s'.heap.get? b = some x
theorem c_parse {it l : Addr} {oI : Obj} {i k : Nat} {vs : List Value} {ns ps : List Int} {high : Int} (C : Cx base w A s.heap 1) (hb : base.get? it = none) (hit : s.heap.get? it = some oI) (hI : LI oI l i) (hl : s.heap.get? l = some (lst vs k))
    (hi : IntsAre vs ns) (hat : ∀ j < ps.length, ns[i + j]? = (marked ps high)[j]?) (h64 : ∀ p ∈ ps, 0 ≤ p ∧ p < 64) (hne : ps ≠ []) (h8 : ps.length ≤ 8) (hhi : high = 0 ∨ high = 128)
    (h : ∀ o' t s', LI o' l (i + ps.length) → Drawn1 s s' it o' → Q (.int (val64 ps) t) s') :
    wpAny (model prog w) A (call (.ref 28) [.ref it]) Q E s := by
  have hpos := List.length_pos_iff.mpr hne
  have hil : l ≠ it := fun q => by rw [q, hit] at hl; cases hl; have := hI.data; cases this
  obtain ⟨h', he⟩ := hole s.heap it
  have C' : Cx base w A h' 1 := C.hole hb hit hI.data he
  have G0 : Pur base { s with heap := h' } s [(it, oI)] [(l, lst vs k)] := by
    refine ⟨⟨_, _, rfl⟩, fun b o q => ?_, C'.st, fun p hp => ?_, fun p hp => ?_, by simp⟩
    · have q : h'.get? b = some o := q
      rw [he] at q
      by_cases hbi : b = it
      · simp [hbi] at q
      · simpa [hbi] using q
    · rw [List.mem_singleton.mp hp]
      show h'.get? l = _
      rw [he, if_neg hil]; exact hl
    · rw [List.mem_singleton.mp hp]
      refine ⟨hit, ?_⟩
      show h'.get? it = none
      rw [he, if_pos rfl]
  have item : ∀ j, j < ps.length → ∃ c t, vs[i + j]? = some (.int (ps.getD j 0 + c) t) ∧ (c = 0 ∨ c = 64 ∨ c = 128 ∨ c = 192) ∧ ((c == 64 || c == 192) = decide (j + 1 < ps.length)) ∧ (0 ≤ ps.getD j 0 ∧ ps.getD j 0 < 64) := by
    intro j hj
    obtain ⟨c, hc1, hc2, hc3⟩ := marked_at hhi hj
    rw [← hat j hj] at hc1
    obtain ⟨v, hv, t, rfl⟩ := paired_getL (ints_iff.mp hi) hc1
    refine ⟨c, t, hv, hc2, hc3, h64 _ ?_⟩
    rw [List.getD_eq_getElem?_getD, List.getElem?_eq_getElem hj]
    exact List.getElem_mem hj
  refine wpAny_call (enterG (s₀ := { s with heap := h' }) (n := 0) (binds := [(Str.ofString "iterator", .ref it)]) C' G0 rfl rfl (BindsTo.of_eq rfl) rfl (by decide) rfl rfl rfl fun L oL s₁ G H D => ?_)
  refine wpAny_mono (E := fun _ _ => False) (Q := fun fl s' => Q (retOf fl) s') ?_ (fun _ _ x => x) (fun _ _ x => x.elim)
  have U := D.wd
  have hh := D.hh
  obtain ⟨m0, H0, e0⟩ : ∃ m0, NsO oL m0 ∧ m0 (Str.ofString "iterator") = some (.ref it) := ⟨_, H, rfl⟩
  clear H
  obtain ⟨c0, t0, hv0, hc0, hcc0, hp0⟩ := item 0 hpos
  -- b = next(iterator)
  refine seq (fun s' => ∃ oL' m' oI', Pur base { s with heap := h' } s' [(L, oL'), (it, oI')] [(l, lst vs k)] ∧ NsO oL' m' ∧ LI oI' l (i + 1) ∧ m' (Str.ofString "iterator") = some (.ref it) ∧ m' (Str.ofString "b") = some (.int (ps.getD 0 0 + c0) t0)) ?_ ?_
  · refine wpAny_Assign_Name ?_
    iterate 6 walk_at "m_e"
    refine nxtItem G (fun o' => [(L, oL), (it, o')]) hI (fun o' => by walk_at "m_rep") (by walk_at "m_kn") hv0 fun oI' s2 hI' G2 => ?_
    walk_at "m_sL"
    intro o' s3 G3 H3
    exact ⟨rfl, o', _, oI', G3, H3, hI', e0, rfl⟩
  rintro s2 ⟨oL2, m2, oI2, G2, H2, hI2, e1, e2⟩
  -- val = b & 63
  have b0 := bits63 hp0.1 hp0.2 hc0
  refine seq (fun s' => ∃ oL' m' tv, Pur base { s with heap := h' } s' [(L, oL'), (it, oI2)] [(l, lst vs k)] ∧ NsO oL' m' ∧ m' (Str.ofString "iterator") = some (.ref it) ∧ m' (Str.ofString "b") = some (.int (ps.getD 0 0 + c0) t0) ∧ m' (Str.ofString "val") = some (.int (ps.getD 0 0) tv)) ?_ ?_
  · refine wpAny_Assign_Name ?_
    iterate 4 walk_at "m_e"
    rw [b0]
    walk_at "m_sL"
    intro o' s3 G3 H3
    exact ⟨rfl, o', _, _, G3, H3, e1, e2, rfl⟩
  rintro s3 ⟨oL3, m3, tv3, G3, H3, f1, f2, f3⟩
  have take1 : ∀ j, j < ps.length → val64 (ps.take (j + 1)) = val64 (ps.take j) * 64 + ps.getD j 0 := by
    intro j hj
    rw [List.take_add_one, List.getElem?_eq_getElem hj, Option.toList_some, val64_snoc, List.getD_eq_getElem?_getD, List.getElem?_eq_getElem hj]
    rfl
  -- while b & 64
  refine seq (fun s' => ∃ oL' m' oI' tv, Pur base { s with heap := h' } s' [(L, oL'), (it, oI')] [(l, lst vs k)] ∧ NsO oL' m' ∧ LI oI' l (i + ps.length) ∧ m' (Str.ofString "val") = some (.int (val64 ps) tv)) ?_ ?_
  · refine whileP (fun n s' => ∃ j oL' m' oI' tv tb c, n = ps.length - j ∧ j < ps.length ∧ Pur base { s with heap := h' } s' [(L, oL'), (it, oI')] [(l, lst vs k)] ∧ NsO oL' m' ∧ LI oI' l (i + j + 1) ∧ m' (Str.ofString "iterator") = some (.ref it) ∧ m' (Str.ofString "b") = some (.int (ps.getD j 0 + c) tb) ∧ m' (Str.ofString "val") = some (.int (val64 (ps.take (j + 1))) tv)
        ∧ (c = 0 ∨ c = 64 ∨ c = 128 ∨ c = 192) ∧ ((c == 64 || c == 192) = decide (j + 1 < ps.length)) ∧ (0 ≤ ps.getD j 0 ∧ ps.getD j 0 < 64)) ?_ ps.length
        ⟨0, oL3, m3, oI2, tv3, t0, c0, rfl, hpos, G3, H3, hI2, f1, f2, by rw [take1 0 hpos]; simpa [val64] using f3, hc0, hcc0, hp0⟩
    rintro n s4 ⟨j, oL4, m4, oI4, tv4, tb4, c4, rfl, hj, G4, H4, hI4, g1, g2, g3, hc4, hcc4, hp4⟩
    refine wpAny_isTrue_value ?_
    iterate 4 walk_at "m_e"
    refine truthy_int ?_
    rw [bits64 hp4.1 hp4.2 hc4, hcc4]
    by_cases hl : j + 1 < ps.length
    · rw [if_pos (by simpa using hl)]
      obtain ⟨c5, t5, hv5, hc5, hcc5, hp5⟩ := item (j + 1) hl
      have hvn : 0 ≤ val64 (ps.take (j + 1)) := val64_nonneg fun p hp => h64 p (List.mem_of_mem_take hp)
      have hvl : val64 (ps.take (j + 1)) < 64 ^ (j + 1) := val64_lt h64 _
      have h648 := pow64_small (j := j + 1) (by omega)
      have hbig : (val64 (ps.take (j + 1))).natAbs < 2 ^ 64 := by
        have : (281474976710656 : Nat) < 2 ^ 64 := by decide
        omega
      refine seq (fun s' => ∃ oL' m' tv, Pur base { s with heap := h' } s' [(L, oL'), (it, oI4)] [(l, lst vs k)] ∧ NsO oL' m' ∧ m' (Str.ofString "iterator") = some (.ref it) ∧ m' (Str.ofString "val") = some (.int (val64 (ps.take (j + 1)) * 64) tv)) ?_ ?_
      · refine wpAny_AugAssign_Name ?_
        refine ldLoc (by assumption) (by walk_at "m_kn") H4 g3 rfl rfl ?_
        walk_at "m_e"
        refine aShl (by assumption) (by decide) (by decide) hbig fun t6 s6 G6 => ?_
        walk_at "m_sL"
        intro o' s7 G7 H7
        exact ⟨rfl, o', _, _, G7, H7, g1, rfl⟩
      rintro s5 ⟨oL5, m5, tv5, G5, H5, k1, k2⟩
      refine seq (fun s' => ∃ oL' m' oI', Pur base { s with heap := h' } s' [(L, oL'), (it, oI')] [(l, lst vs k)] ∧ NsO oL' m' ∧ LI oI' l (i + (j + 1) + 1) ∧ m' (Str.ofString "iterator") = some (.ref it) ∧ m' (Str.ofString "val") = some (.int (val64 (ps.take (j + 1)) * 64) tv5) ∧ m' (Str.ofString "b") = some (.int (ps.getD (j + 1) 0 + c5) t5)) ?_ ?_
      · refine wpAny_Assign_Name ?_
        iterate 6 walk_at "m_e"
        refine nxtItem G5 (fun o' => [(L, oL5), (it, o')]) hI4 (fun o' => by walk_at "m_rep") (by walk_at "m_kn") hv5 fun oI' s6 hI' G6 => ?_
        walk_at "m_sL"
        intro o' s7 G7 H7
        exact ⟨rfl, o', _, oI', G7, H7, hI', k1, k2, rfl⟩
      rintro s6 ⟨oL6, m6, oI6, G6, H6, hI6, l1, l2, l3⟩
      have b5 := bits63 hp5.1 hp5.2 hc5
      refine seq (fun s' => ∃ oL' m' tv, Pur base { s with heap := h' } s' [(L, oL'), (it, oI6)] [(l, lst vs k)] ∧ NsO oL' m' ∧ m' (Str.ofString "iterator") = some (.ref it) ∧ m' (Str.ofString "b") = some (.int (ps.getD (j + 1) 0 + c5) t5) ∧ m' (Str.ofString "val") = some (.int (val64 (ps.take (j + 1 + 1))) tv)) ?_ ?_
      · refine wpAny_AugAssign_Name ?_
        refine ldLoc (by assumption) (by walk_at "m_kn") H6 l2 rfl rfl ?_
        iterate 4 walk_at "m_e"
        rw [b5]
        refine aOr (by assumption) fun t7 s7 G7 => ?_
        rw [bitOr_low (k := 6) (by rw [show (2 : Int) ^ 6 = 64 from rfl]; exact Int.mul_emod_left _ _) hp5.1 hp5.2, ← take1 _ hl]
        walk_at "m_sL"
        intro o' s8 G8 H8
        exact ⟨rfl, o', _, _, G8, H8, l1, l3, rfl⟩
      rintro s7 ⟨oL7, m7, tv7, G7, H7, n1, n2, n3⟩
      exact wpAny_execs_nil ⟨rfl, ps.length - (j + 1), by omega, j + 1, oL7, m7, oI6, tv7, t5, c5, rfl, hl, G7, H7, hI6, n1, n2, n3, hc5, hcc5, hp5⟩
    · rw [if_neg (by simpa using hl)]
      have hj1 : j + 1 = ps.length := by omega
      rw [hj1, List.take_length] at g3
      rw [show i + j + 1 = i + ps.length by omega] at hI4
      exact ⟨oL4, m4, oI4, tv4, by assumption, H4, hI4, g3⟩
  rintro s8 ⟨oL8, m8, oI8, tv8, G8, H8, hI8, g8⟩
  refine seqRet ?_
  walk_at "m_e"
  refine h oI8 tv8 s8 hI8 ⟨?_, (G8.made (it, oI8) (by walk_at "m_mem")).1, fun b x hbi hx => G8.grow b x ?_⟩
  · obtain ⟨h1, tk, e⟩ := G8.same
    exact ⟨h1, tk, e⟩
  · show h'.get? b = some x
    rw [he, if_neg hbi]; exact hx
end

section
variable {prog : Program} {w : World} {A : Around} {E : Value → Shared → Prop} {base : Heap} {s : Shared} {Q : Value → Shared → Prop}
theorem Cx.outer {h : Heap} {n : Nat} (C : Cx base w A h n) : ∃ outer, A.frames = some outer ∧ frs A = outer.filterMap (·.frame) := by
  obtain ⟨outer, h1, _⟩ := C.fr
  exact ⟨outer, h1, by rw [frs, h1]; rfl⟩
theorem c_parseStop {it l : Addr} {oI : Obj} {i k : Nat} {vs : List Value} (C : Cx base w A s.heap 1) (hb : base.get? it = none) (hit : s.heap.get? it = some oI) (hI : LI oI l i) (hl : s.heap.get? l = some (lst vs k)) (hend : vs.length ≤ i)
    (h : ∀ (s₁ s₂ : Shared) T oT e oe s', s₁ = { s with heap := s₁.heap } → (∀ b, s₁.heap.get? b = if b = it then none else s.heap.get? b) → s₂ = { s with heap := s₂.heap } → Heap.SlotsOnly (frs A) s₁.heap s₂.heap → Trc oe T oT .none "StopIteration" .none → Pur base s₂ s' [(T, oT), (e, oe)] [] → E (.ref e) s') :
    wpAny (model prog w) A (call (.ref 28) [.ref it]) Q E s := by
  have hil : l ≠ it := fun q => by rw [q, hit] at hl; cases hl; have := hI.data; cases this
  obtain ⟨h', he⟩ := hole s.heap it
  have C' : Cx base w A h' 1 := C.hole hb hit hI.data he
  have G0 : Pur base { s with heap := h' } s [(it, oI)] [(l, lst vs k)] := by
    refine ⟨⟨_, _, rfl⟩, fun b o q => ?_, C'.st, fun p hp => ?_, fun p hp => ?_, by simp⟩
    · have q : h'.get? b = some o := q
      rw [he] at q
      by_cases hbi : b = it
      · simp [hbi] at q
      · simpa [hbi] using q
    · rw [List.mem_singleton.mp hp]
      show h'.get? l = _
      rw [he, if_neg hil]; exact hl
    · rw [List.mem_singleton.mp hp]
      refine ⟨hit, ?_⟩
      show h'.get? it = none
      rw [he, if_pos rfl]
  obtain ⟨outer, ho1, ho2⟩ := C.outer
  refine wpAny_call (enterG (s₀ := { s with heap := h' }) (n := 0) (binds := [(Str.ofString "iterator", .ref it)]) C' G0 rfl rfl (BindsTo.of_eq rfl) rfl (by decide) rfl rfl rfl fun L oL s₁ G H D => ?_)
  have U := D.wd
  have hh := D.hh
  obtain ⟨m0, H0, e0⟩ : ∃ m0, NsO oL m0 ∧ m0 (Str.ofString "iterator") = some (.ref it) := ⟨_, H, rfl⟩
  clear H
  refine seq (fun _ => False) ?_ (fun _ x => x.elim)
  refine wpAny_Assign_Name ?_
  iterate 6 walk_at "m_e"
  refine nxtStop G hh hI (.tail .head) (by walk_at "m_kn") hend fun e oe s2 hx G2 => ?_
  refine leave1 (outer := outer) (L := L) ((D.here _ _ _ _ G2 (.tail _ (.head _)) H0).ff (Around.frames_deeper ho1)) ?_ G2 (Around.frames_deeper ho1) rfl ?_ (fun o' => [(e, oe), (L, o')]) (fun o' => .tail .head) (fun o' x' => [(e, x'), (L, o')]) (fun o' x' => .head) hx fun s₀' sl oe' T oT s3 e1 y hT G3 => ?_
  · rw [← ho2]; exact C'.frames
  · intro p hp es j
    rw [List.mem_singleton.mp hp]
    exact fun q => nomatch q
  · refine h { s with heap := h' } s₀' T oT e oe' s3 rfl he (by rw [e1]) (by rw [ho2]; exact y) hT (G3.sub ?_ fun p hp => nomatch hp)
    walk_at "m_sub"
end

-- the codes behind one another
structure Code1 (c : List Int × Int) : Prop where
  in64 : ∀ p ∈ c.1, 0 ≤ p ∧ p < 64
  ne : c.1 ≠ []
  len : c.1.length ≤ 8
  hi : c.2 = 0 ∨ c.2 = 128
def strung (codes : List (List Int × Int)) : List Int := codes.flatMap fun c => marked c.1 c.2
theorem strung_len {codes : List (List Int × Int)} {c : List Int × Int} {j : Nat} (hc : codes[j]? = some c) (h1 : Code1 c) : (strung (codes.take (j + 1))).length = (strung (codes.take j)).length + c.1.length := by
  rw [List.take_add_one, hc, Option.toList_some]
  simp [strung, marked_len h1.ne]
theorem strung_at {codes : List (List Int × Int)} {c : List Int × Int} {j : Nat} (hc : codes[j]? = some c) (h1 : Code1 c) (i : Nat) (hi : i < c.1.length) : (strung codes)[(strung (codes.take j)).length + i]? = (marked c.1 c.2)[i]? := by
  have e : codes = codes.take j ++ (c :: codes.drop (j + 1)) := by
    conv => lhs; rw [← List.take_append_drop j codes]
    rw [List.drop_eq_getElem?_toList_append, hc]
    rfl
  have e2 : strung codes = strung (codes.take j) ++ (marked c.1 c.2 ++ strung (codes.drop (j + 1))) := by
    conv => lhs; rw [e]
    simp [strung]
  rw [e2, List.getElem?_append_right (by omega), Nat.add_sub_cancel_left, List.getElem?_append_left (by rw [marked_len h1.ne]; exact hi)]

section
variable {prog : Program} {w : World} {A : Around} {E : Value → Shared → Prop} {base : Heap} {s₀ s : Shared} {nw kn : List (Addr × Obj)} {env : Env} {L e T : Addr} {oe oT : Obj} {cls : String} {x : Value}
theorem unpackT {t : Addr} {vs : List Value} {k : Nat} {Q : List Value → Shared → Prop} (G : Pur base s₀ s nw kn) (hh : A.handled = none) (hm : (t, tup vs k) ∈ nw ∨ (t, tup vs k) ∈ kn) (h : ∀ s', Pur base s₀ s' nw kn → Q vs s') (n : Nat) (hn : n = vs.length := by rfl) :
    wpAny (model prog w) A (unpackItems (.ref t) n none) Q E s := by
  subst hn
  have := unpackItems_tuple (prog := prog) (w := w) (A := A) (E := E) (s := s) (t := t) (items := vs.toArray) (Q := Q) hh ⟨_, G.get hm, rfl, k, rfl⟩ fun h' hx => by
    refine h { s with heap := h' } (G.mono ⟨_, _, rfl, fun b o q => hx b o (Nat.ne_of_lt (Heap.lt_size q)) q⟩)
  simpa using this
theorem aio_cons {y : Str} {ts : List (Value → Sem Unit)} {v : Value} {xs : List Value} {Q : Unit → Shared → Prop} (h : wpAny (model prog w) A (storeName env y v) (fun _ s₁ => wpAny (model prog w) A (assignInOrder ts xs) Q E s₁) E s) :
    wpAny (model prog w) A (assignInOrder (bindName env y :: ts) (v :: xs)) Q E s := by
  rw [assignInOrder]
  exact wpAny_bind (wpAny_holding (wpAny_bindName h))
theorem aio_nil {Q : Unit → Shared → Prop} (h : Q () s) : wpAny (model prog w) A (assignInOrder [] []) Q E s := by
  unfold assignInOrder
  exact wpAny_pure h
theorem aloft {fl : Value} {Q : Unit → Shared → Prop} (G : Pur base s₀ s nw kn) (he : (e, oe) ∈ nw) (g : Obj → List (Addr × Obj)) (R : ∀ o', Rep T oT o' nw (g o')) (hx : Trc oe T oT fl cls x) (h : ∀ oT' s', Trc oe T oT' (rawInt L) cls x → Pur base s₀ s' (g oT') kn → Q () s') :
    wpAny (model prog w) A (setFlight (.ref e) (some L)) Q E s := by
  obtain ⟨vs, hd, h1, h2⟩ := hx.data
  obtain ⟨ts, hdT, h3⟩ := hx.tb
  have hT := G.get (.inl (R oT).mem)
  have h3' := (Array.getElem?_eq_some_iff.mp h3).1
  have hd' := Obj.data_mapFields hdT (·.setIfInBounds 3 (rawInt L))
  unfold setFlight
  refine wpAny_bind (wpAny_field (G.get (.inl he)) hd h1 ?_)
  rw [if_pos (show (Value.ref T != Value.none) = true from by simp)]
  exact wpAny_setField hT hdT h3' (h _ _ ⟨hx.cls, ⟨vs, hd, h1, h2⟩, ⟨_, hd', by simp [h3']⟩⟩ (G.change (R _) ⟨_, _, rfl⟩ (fun b z hb q => (Heap.SameBut.update ..).extBut b z hb q) (Heap.get?_update_self _ hT (Obj.isFreed_of_fields hd'))))
theorem cameBack {fl : Value} (G : Pur base s₀ s nw kn) (hf : env.frame = some L) (he : (e, oe) ∈ nw) (g : Obj → List (Addr × Obj)) (R : ∀ o', Rep T oT o' nw (g o')) (hx : Trc oe T oT fl cls x) (h : ∀ oT' s', Trc oe T oT' (rawInt L) cls x → Pur base s₀ s' (g oT') kn → E (.ref e) s') :
    cameBackBy (model prog w) A env E (.ref e) s := by
  obtain ⟨vs, hd, h1, h2⟩ := hx.data
  unfold cameBackBy
  refine wpAny_bind (wpAny_field (G.get (.inl he)) hd h1 ?_)
  rw [if_neg (show ¬ ((Value.ref T == Value.none) = true) from by simp)]
  rw [hf]
  exact aloft G he g R hx h
end

section
variable {prog : Program} {w : World} {A : Around} {s₀ s : Shared} {base : Heap} {n : Nat} {Q E : Value → Shared → Prop} {name qual : Str} {params : Arguments} {body : List Stmt} {scope : Scope} {dV kV doc pm cdv ct oc : Value} {an od : Option Addr} {osl : Array (Option Value)}
  {f : Addr} {binds : List (Str × Value)} {nw kn : List (Addr × Obj)}
theorem callX {vs : List Value} {kw : List (Str × Value)} (C : Cx base w A s₀.heap (n + 1)) (G0 : Pur base s₀ s nw kn) (ho : (KF w).lookup f = some ⟨oc, od, .func (fnOf name qual params body scope dV kV doc pm an cdv ct), osl⟩) (hcd : codeIn (KF w) cdv qual = true)
    (hbind : BindsTo s (fnOf name qual params body scope dV kV doc pm an cdv ct) ⟨vs, kw⟩ binds) (hloc : (binds.all fun x => decide (scope.names.lookup x.1 = some .local)) = true)
    (hcell : ∀ x ∈ scope.names, x.2 ≠ .cell) (hco : scope.isCoroutine = false) (hgen : scope.isGenerator = false) (hk : scope.kind = .function)
    (h : ∀ A' L oL s₁ outer, A.frames = some outer → frs A = outer.filterMap (·.frame) → A'.frames = some (envX qual scope L f cdv [] :: outer) → frs A' = L :: frs A → Pur base s₀ s₁ ((L, oL) :: nw) kn → NsO oL (fun y => binds.reverse.lookup y) → Deep base w A' s₀ kn L n → (∀ s₂ : Shared, Heap.SlotsOnly (frs A) s₀.heap s₂.heap → Deep base w A' s₂ kn L n) →
      wpAny (model prog w) A' (execs body (envX qual scope L f cdv [])) (fun fl s' => Q (retOf fl) s') (fun _ _ => False) s₁) :
    wpAny (model prog w) A (call (.ref f) vs kw) Q E s := by
  obtain ⟨outer, ho1, ho2⟩ := C.outer
  refine wpAny_call (enterG C G0 ho hcd hbind hloc hcell hco hgen hk fun L oL s₁ G H D => ?_)
  refine wpAny_mono (h _ L oL s₁ outer ho1 ho2 (Around.frames_deeper ho1) ?_ G H D fun s₂ y => Deep.of (C.slots y) rfl hk) (fun _ _ x => x) (fun _ _ x => x.elim)
  rw [frs, Around.frames_deeper ho1, frs, ho1]
  rfl
end

section
variable {prog : Program} {w : World} {A : Around} {E : Value → Shared → Prop} {base : Heap} {s : Shared} {Q : Value → Shared → Prop}
theorem c_numbers {l : Addr} {vs : List Value} {k : Nat} {codes : List (List Int × Int)} (C : Cx base w A s.heap 2) (hl : s.heap.get? l = some (lst vs k)) (hi : IntsAre vs (strung codes)) (hcs : ∀ c ∈ codes, Code1 c) (hn : codes.length ≤ 20)
    (h : ∀ (s₂ : Shared) D kD ys s', s₂ = { s with heap := s₂.heap } → Heap.SlotsOnly (frs A) s.heap s₂.heap → IntsAre ys (codes.map fun c => val64 c.1) → Pur base s₂ s' [(D, lst ys kD)] [] → Q (.ref D) s') :
    wpAny (model prog w) A (call (.ref 89) [.ref l]) Q E s := by
  refine callX (s₀ := s) (n := 1) (nw := []) (kn := [(l, lst vs k)]) (binds := [(Str.ofString "places", .ref l)]) C (Pur.start C.st fun p hp => by rw [List.mem_singleton.mp hp]; exact hl) rfl rfl (BindsTo.of_eq rfl) rfl (by decide) rfl rfl rfl fun A' L oL s₁ outer ho1 ho2 hfr hA G H D _ => ?_
  have U := D.wd
  have hh := D.hh
  obtain ⟨m0, H0, e0⟩ : ∃ m0, NsO oL m0 ∧ m0 (Str.ofString "places") = some (.ref l) := ⟨_, H, rfl⟩
  clear H
  -- walker, numbers = (iter(places), [])
  refine seq (fun s' => ∃ oL' m' W oW N, Pur base s s' [(N, lst [] 0), (W, oW), (L, oL')] [(l, lst vs k)] ∧ NsO oL' m' ∧ LI oW l 0 ∧ m' (Str.ofString "walker") = some (.ref W) ∧ m' (Str.ofString "numbers") = some (.ref N)) ?_ ?_
  · refine Assign_Tuple_swapped (names := [Str.ofString "walker", Str.ofString "numbers"]) ?_ (by with_unfolding_all rfl) (by with_unfolding_all rfl)
    refine Tuple_ ?_
    iterate 7 walk_at "m_e"
    refine itL G (by walk_at "m_kn") fun W oW s2 hW G2 => ?_
    refine spliced_more (List_ (spliced_none ?_))
    refine lNew G2 (by decide) fun N s3 G3 => ?_
    refine spliced_none ?_
    refine tNew G3 (by rw [sizeLine_eq]; simp) fun T s4 G4 => ?_
    refine unpackT G4 hh (by walk_at "m_kn") (fun s5 G5 => ?_) _
    refine aio_cons ?_
    walk_at "m_sL"
    intro o' s6 G6 H6
    refine aio_cons ?_
    walk_at "m_sL"
    intro o'' s7 G7 H7
    refine aio_nil ?_
    exact ⟨rfl, o'', _, W, oW, N, G7.sub (by walk_at "m_sub") (fun p hp => hp), H7, hW, rfl, rfl⟩
  rintro s2 ⟨oL2, m2, W, oW, N, G2, H2, hW, e1, e2⟩
  clear G
  have C2 : ∀ {s' nw o m}, Pur base s s' nw [(l, lst vs k)] → (L, o) ∈ nw → NsO o m → Cx base w A' s'.heap 1 := fun g a b => D.here _ _ _ _ g a b
  refine wpAny_execs_cons ?_
  refine wpAny_Try_except ?_
  -- what the handler finds
  let J : Value → Shared → Prop := fun e s' => ∃ s₂ : Shared, ∃ ea oe T oT ys kN oL' m', e = .ref ea ∧ s₂ = { s with heap := s₂.heap } ∧ Heap.SlotsOnly (frs A) s.heap s₂.heap ∧ Trc oe T oT (rawInt L) "StopIteration" .none ∧ IntsAre ys (codes.map fun c => val64 c.1) ∧
    Pur base s₂ s' [(T, oT), (ea, oe), (N, lst ys kN), (L, oL')] [(l, lst vs k)] ∧ NsO oL' m' ∧ m' (Str.ofString "numbers") = some (.ref N)
  refine wpAny_mono (Q := fun _ _ => False) (E := J) ?_ (fun _ _ x => x.elim) ?_
  · refine wpAny_execs_cons (wpAny_While (codeAny_whileLoop (fun n s' => ∃ j ys kN oW, n = codes.length - j + 1 ∧ j ≤ codes.length ∧ LI oW l (strung (codes.take j)).length ∧ IntsAre ys ((codes.take j).map fun c => val64 c.1) ∧ Pur base s s' [(N, lst ys kN), (W, oW), (L, oL2)] [(l, lst vs k)]) ?_ (codes.length + 1) ⟨0, [], 0, oW, rfl, Nat.zero_le _, hW, .nil, G2⟩))
    rintro n s3 ⟨j, ys, kN, oW3, rfl, hj, hW3, hys, G3⟩
    have hyl : ys.length = j := by rw [hys.length, List.length_map, List.length_take]; omega
    iterate 7 walk_at "m_e"
    refine lLen (by assumption) (by walk_at "m_kn") (by omega) fun t4 s4 G4 => ?_
    refine cInt G4 fun t5 s5 G5 => ?_
    iterate 2 walk_at "m_e"
    rw [if_pos (by simp; omega)]
    refine seq (fun s' => j < codes.length ∧ ∃ ys kN oW, LI oW l (strung (codes.take (j + 1))).length ∧ IntsAre ys ((codes.take (j + 1)).map fun c => val64 c.1) ∧ Pur base s s' [(N, lst ys kN), (W, oW), (L, oL2)] [(l, lst vs k)]) ?_ ?_
    · refine appS (base := base) (s₀ := s) (kn := [(l, lst vs k)]) ?_
      walk_at "m_e"
      refine ⟨N, ys, kN, _, rfl, by assumption, by walk_at "m_kn", ?_⟩
      iterate 6 walk_at "m_c"
      have hbW : base.get? W = none := by
        cases q : base.get? W with
        | none => rfl
        | some o => have := G5.st _ _ q; rw [(G5.made (W, oW3) (by walk_at "m_mem")).2] at this; cases this
      have C5 := C2 G5 (by walk_at "m_mem") H2
      by_cases hlt : j < codes.length
      · have hc := List.getElem?_eq_getElem hlt
        have h1 := hcs _ (List.getElem_mem hlt)
        refine ⟨U.X.keeps G5.based, c_parse (i := (strung (codes.take j)).length) (ps := codes[j].1) (high := codes[j].2) C5 hbW (G5.get (.inl (by walk_at "m_mem"))) hW3 (G5.get (.inr (by walk_at "m_mem"))) hi (fun i hi => strung_at hc h1 i hi) h1.in64 h1.ne h1.len h1.hi fun o' t6 s6 hI6 d6 => ?_⟩
        have G6 : Pur base s s6 [(N, lst ys kN), (W, o'), (L, oL2)] [(l, lst vs k)] := G5.change (a := W) (o := oW3) (.tail .head) d6.same d6.keep d6.here
        refine lApp G6 (fun o => [(N, o), (W, o'), (L, oL2)]) (fun o => .head) (by rw [sizeLine_eq]; omega) fun k7 s7 G7 => ?_
        refine ⟨rfl, hlt, _, k7, o', ?_, ?_, G7⟩
        · rw [strung_len hc h1]; exact hI6
        · rw [List.take_add_one, hc, Option.toList_some, List.map_append]
          exact ints_snoc hys _ _
      · obtain rfl : j = codes.length := by omega
        rw [List.take_length] at hW3 hys
        refine ⟨U.X.keeps G5.based, c_parseStop (i := (strung codes).length) C5 hbW (G5.get (.inl (by walk_at "m_mem"))) hW3 (G5.get (.inr (by walk_at "m_mem"))) (Nat.le_of_eq hi.length) fun sa sb T oT e oe s6 ea eh eb y hT G6 => ?_⟩
        have G7 : Pur base s sa [(N, lst ys kN), (L, oL2)] [(l, lst vs k)] := G5.forget (a := W) (o := oW3) (.tail .head) ⟨sa.heap, s5.toks, ea⟩ fun b x hb q => by rw [eh, if_neg hb]; exact q
        rw [hA] at y
        have hfs := C.frames
        obtain ⟨s0', sl, e0', y0, G8⟩ := G7.slots (L := L) (oL := oL2) (g := fun o => [(N, lst ys kN), (L, o)]) y hfs (fun p hp es j => by rw [List.mem_singleton.mp hp]; exact fun q => nomatch q) (fun o => .tail .head)
        have eb' : ({ sa with heap := sb.heap } : Shared) = sb := by rw [ea, eb]
        rw [eb'] at G8
        have G9 := G8.trans G6
        have C9 : Cx base w A' s6.heap 1 := ((C5.hole hbW (G5.get (.inl (by walk_at "m_mem"))) hW3.data eh).slots (by rw [hA]; exact y)).mono G6.grow
        have C0 := C.slots y0
        refine note2 (L := L) (T := T) (oT := oT) (outer := outer) (C9.ff hfr) (by rw [← ho2]; exact C0.frames) G9 hfr rfl (fun p hp es j => by rw [List.mem_singleton.mp hp]; exact fun q => nomatch q) .head (fun o => [(e, oe), (N, lst ys kN), (L, o)]) (fun o => .tail (.tail .head)) (fun o x => [(e, x), (N, lst ys kN), (L, o)]) (fun o x => .head) hT fun s0'' sl' oe' T' oT' s7 e7 y7 hT7 G10 => ?_
        refine cameBack (L := L) (T := T') (oT := oT') G10 rfl (.tail _ (.head _)) (fun o => [(T', o), (e, oe'), (N, lst ys kN), (L, { oL2 with slots := sl' })]) (fun o => .head) hT7 fun oT'' s8 hT8 G11 => ?_
        exact ⟨s0'', e, oe', T', oT'', ys, kN, _, m2, rfl, by rw [e7, e0'], y0.trans (by rw [ho2]; exact y7), hT8, hys, G11, NsO.slots H2 _, e2⟩
    · rintro s5 ⟨hlt, ys5, kN5, oW5, a1, a2, a3⟩
      exact wpAny_execs_nil ⟨codes.length - (j + 1) + 1, by omega, j + 1, ys5, kN5, oW5, rfl, hlt, a1, a2, a3⟩
  · rintro e' s3 ⟨s₂, ea, oe, T, oT, ys, kN, oL', m', rfl, e3, y3, hT3, hys, G3, H3, f3⟩
    refine noteOn G3 rfl (.tail _ (.head _)) (.head _) hT3 ?_
    refine grounded G3 (.tail _ (.head _)) (fun o => [(T, o), (ea, oe), (N, lst ys kN), (L, oL')]) (fun o => .head) hT3 fun oT4 s4 hT4 G4 => ?_
    refine wpAny_handleBy_builtin (X := "StopIteration") (T := "StopIteration") (b := true) (by rw [isSubtype_type]; kernel_rfl) (by rw [isSubtype_type]; kernel_rfl) owsi_facts.sub ?_
    refine nBlt G4 U rfl rfl rfl rfl rfl (v := .type "StopIteration") (by kernel_rfl) (by decide) (by decide) ?_
    refine ⟨rfl, ⟨oe, G4.get (.inl (.tail _ (.head _))), hT4.cls⟩, ?_⟩
    rw [if_pos rfl]
    refine grounded G4 (.tail _ (.head _)) (fun o => [(T, o), (ea, oe), (N, lst ys kN), (L, oL')]) (fun o => .head) hT4 fun oT5 s5 hT5 G5 => ?_
    refine seqRet ?_
    walk_at "m_e"
    refine h s₂ N kN ys s5 e3 y3 hys (G5.sub ?_ fun p hp => nomatch hp)
    walk_at "m_sub"
end

-- bytes in order
theorem slot_blt : Slot "bytes" (cmpInfo .Lt).2.1 "bytes.__lt__" :=
  .of (owner := "bytes") (n := "__lt__") (by rw [typeLookup_type, builtinLookup_eq_fast]; kernel_rfl) (by decide +kernel) (by decide +kernel) (by decide +kernel)
    (by first | exact .inl (by decide +kernel) | exact .inr (by decide +kernel)) (by rw [isSubtype_type]; kernel_rfl)
theorem slot_bgt : Slot "bytes" (cmpInfo .Gt).2.1 "bytes.__gt__" :=
  .of (owner := "bytes") (n := "__gt__") (by rw [typeLookup_type, builtinLookup_eq_fast]; kernel_rfl) (by decide +kernel) (by decide +kernel) (by decide +kernel)
    (by first | exact .inl (by decide +kernel) | exact .inr (by decide +kernel)) (by rw [isSubtype_type]; kernel_rfl)
theorem entry_blt : entryFor table "bytes.__lt__" = some Builtin.«bytes.__lt__» := entryFor_of_tree (by kernel_rfl)
theorem entry_bgt : entryFor table "bytes.__gt__" = some Builtin.«bytes.__gt__» := entryFor_of_tree (by kernel_rfl)
theorem args_blt (a b : Value) : argsOk "bytes.__lt__" ⟨[a, b], []⟩ := by
  unfold argsOk; rw [signature?_of (id := "bytes.__lt__") (n := ['_', '_', 't', 'l', '_', '_']) (o := ['s', 'e', 't', 'y', 'b']) (by kernel_rfl) FB.owner_bytes]; kernel_rfl
theorem args_bgt (a b : Value) : argsOk "bytes.__gt__" ⟨[a, b], []⟩ := by
  unfold argsOk; rw [signature?_of (id := "bytes.__gt__") (n := ['_', '_', 't', 'g', '_', '_']) (o := ['s', 'e', 't', 'y', 'b']) (by kernel_rfl) FB.owner_bytes]; kernel_rfl
theorem gives_blt (b c : Array UInt8) (t u : Tok) : Gives (Builtin.«bytes.__lt__» ⟨[.bytes b t, .bytes c u], []⟩) (.val (.bool (Builtin.Bytes.order b.toList c.toList == .lt))) := by
  refine .of_wp fun M A E s Q hq => ?_
  show wpAny M A (isInstance (.bytes c u) (.type "bytes") >>= fun r => _) _ E s
  refine wpAny_bind (wpAny_isInstance (typeIs_bytes s c u) F.sub_bytes_bytes ?_)
  exact wpAny_pure ⟨_, rfl, hq⟩
theorem gives_bgt (b c : Array UInt8) (t u : Tok) : Gives (Builtin.«bytes.__gt__» ⟨[.bytes b t, .bytes c u], []⟩) (.val (.bool (Builtin.Bytes.order b.toList c.toList == .gt))) := by
  refine .of_wp fun M A E s Q hq => ?_
  show wpAny M A (isInstance (.bytes c u) (.type "bytes") >>= fun r => _) _ E s
  refine wpAny_bind (wpAny_isInstance (typeIs_bytes s c u) F.sub_bytes_bytes ?_)
  exact wpAny_pure ⟨_, rfl, hq⟩
section
variable {prog : Program} {w : World} {A : Around} {E : Value → Shared → Prop} {s : Shared} {b c : Array UInt8} {t u : Tok} {Q : Value → Shared → Prop}
theorem lt_b (h : Q (.bool (Builtin.Bytes.order b.toList c.toList == .lt)) s) : wpAny (model prog w) A (compareOp .Lt (.bytes b t) (.bytes c u)) Q E s :=
  compareOp_gives (op := .Lt) (typeIs_bytes s b t) (typeIs_bytes s c u) slot_blt entry_blt (args_blt _ _) (gives_blt b c t u) (fun e => nomatch e) h
theorem gt_b (h : Q (.bool (Builtin.Bytes.order b.toList c.toList == .gt)) s) : wpAny (model prog w) A (compareOp .Gt (.bytes b t) (.bytes c u)) Q E s :=
  compareOp_gives (op := .Gt) (typeIs_bytes s b t) (typeIs_bytes s c u) slot_bgt entry_bgt (args_bgt _ _) (gives_bgt b c t u) (fun e => nomatch e) h
end
abbrev ofBytes (l : List UInt8) : List Int := l.map fun x => (x.toNat : Int)
theorem val256_cons (x : Int) (l : List Int) : val256 (x :: l) = x * 256 ^ l.length + val256 l := by
  have : ∀ (l : List Int) (acc : Int), l.foldl (fun a b => a * 256 + b) acc = acc * 256 ^ l.length + l.foldl (fun a b => a * 256 + b) 0 := by
    intro l
    induction l with
    | nil => intro acc; simp
    | cons y l ih =>
      intro acc
      rw [List.foldl_cons, ih, List.foldl_cons, ih (0 * 256 + y), List.length_cons, Int.pow_succ, Int.add_mul, Int.zero_mul, Int.zero_add, Int.mul_assoc, Int.mul_comm 256, Int.add_assoc]
  show (x :: l).foldl (fun a b => a * 256 + b) 0 = _
  rw [List.foldl_cons, this, Int.zero_mul, Int.zero_add]
  rfl
theorem ofBytes_lt (l : List UInt8) : 0 ≤ val256 (ofBytes l) ∧ val256 (ofBytes l) < 256 ^ l.length := by
  induction l with
  | nil => simp [ofBytes, val256]
  | cons x l ih =>
    rw [ofBytes, List.map_cons, val256_cons, List.length_map, List.length_cons, Int.pow_succ]
    have hx : x.toNat < 256 := x.toNat_lt
    have hp : (0 : Int) < 256 ^ l.length := Int.pow_pos (by decide)
    have h1 : (x.toNat : Int) * 256 ^ l.length ≤ 255 * 256 ^ l.length := Int.mul_le_mul_of_nonneg_right (by omega) (Int.le_of_lt hp)
    have h2 : 0 ≤ (x.toNat : Int) * 256 ^ l.length := Int.mul_nonneg (by omega) (Int.le_of_lt hp)
    have := ih
    constructor
    · show 0 ≤ _ + val256 (ofBytes l); omega
    · show _ + val256 (ofBytes l) < _; omega
theorem order_val : ∀ (a b : List UInt8), a.length = b.length → Builtin.Bytes.order a b = (if val256 (ofBytes a) < val256 (ofBytes b) then .lt else if val256 (ofBytes b) < val256 (ofBytes a) then .gt else .eq)
  | [], [], _ => by simp [Builtin.Bytes.order]
  | [], _ :: _, h => by simp at h
  | _ :: _, [], h => by simp at h
  | x :: a, y :: b, h => by
    have hl : a.length = b.length := by simpa using h
    have ih := order_val a b hl
    have e1 : val256 (ofBytes (x :: a)) = (x.toNat : Int) * 256 ^ b.length + val256 (ofBytes a) := by rw [ofBytes, List.map_cons, val256_cons, List.length_map, hl]
    have e2 : val256 (ofBytes (y :: b)) = (y.toNat : Int) * 256 ^ b.length + val256 (ofBytes b) := by rw [ofBytes, List.map_cons, val256_cons, List.length_map]
    have ha := ofBytes_lt a
    have hb := ofBytes_lt b
    rw [hl] at ha
    have hp : (0 : Int) < 256 ^ b.length := Int.pow_pos (by decide)
    rw [Builtin.Bytes.order, e1, e2]
    generalize (256 : Int) ^ b.length = P at *
    generalize val256 (ofBytes a) = va at *
    generalize val256 (ofBytes b) = vb at *
    by_cases hxy : x < y
    · have h1 : (x.toNat : Int) + 1 ≤ y.toNat := by have := UInt8.lt_iff_toNat_lt.mp hxy; omega
      have h2 : ((x.toNat : Int) + 1) * P ≤ y.toNat * P := Int.mul_le_mul_of_nonneg_right h1 (Int.le_of_lt hp)
      rw [Int.add_mul] at h2
      rw [if_pos hxy, if_pos (by omega)]
    · by_cases hyx : x > y
      · have h1 : (y.toNat : Int) + 1 ≤ x.toNat := by have := UInt8.lt_iff_toNat_lt.mp hyx; omega
        have h2 : ((y.toNat : Int) + 1) * P ≤ x.toNat * P := Int.mul_le_mul_of_nonneg_right h1 (Int.le_of_lt hp)
        rw [Int.add_mul] at h2
        rw [if_neg hxy, if_pos hyx, if_neg (by omega), if_pos (by omega)]
      · have : x = y := UInt8.le_antisymm (UInt8.not_lt.mp hyx) (UInt8.not_lt.mp hxy)
        subst this
        rw [if_neg hxy, if_neg hyx, ih]
        have e3 : ((x.toNat : Int) * P + va < x.toNat * P + vb) = (va < vb) := by apply propext; omega
        have e4 : ((x.toNat : Int) * P + vb < x.toNat * P + va) = (vb < va) := by apply propext; omega
        simp only [e3, e4]
theorem bytes_back {ns : List Int} (h : ∀ n ∈ ns, 0 ≤ n ∧ n < 256) : ofBytes (byteArr ns).toList = ns := by
  have := byteArr_nats h
  have e : ofBytes (byteArr ns).toList = ((byteArr ns).toList.map (·.toNat)).map fun n : Nat => (n : Int) := by rw [List.map_map]; rfl
  rw [e, this, List.map_map]
  conv => rhs; rw [← List.map_id ns]
  apply List.map_congr_left
  intro n hn
  have := h n hn
  show ((n.toNat : Nat) : Int) = n
  omega
theorem digOf_val {many : Nat} (h1 : 1 ≤ many) (h4 : many ≤ 4) {v : Int} (hv : 0 ≤ v) (hv' : v < 256 ^ many) : val256 (digOf many v) = v := by
  have e : ∀ k : Int, 0 ≤ k → (v.fdiv k).fmod 256 = v / k % 256 := fun k hk => by
    rw [Int.fdiv_eq_ediv_of_nonneg _ hk, Int.fmod_eq_emod_of_nonneg _ (by decide)]
  have e0 : v.fmod 256 = v % 256 := Int.fmod_eq_emod_of_nonneg _ (by decide)
  match many, h1, h4 with
  | 1, _, _ =>
    simp only [digOf, upto, List.range_succ, List.range_zero, List.nil_append, List.map_cons, List.map_nil, val256, List.foldl_cons, List.foldl_nil]
    simp
    rw [e0]
    omega
  | 2, _, _ =>
    simp only [digOf, upto, List.range_succ, List.range_zero, List.nil_append, List.cons_append, List.map_cons, List.map_nil, val256, List.foldl_cons, List.foldl_nil]
    simp
    rw [e _ (by decide), e0]
    omega
  | 3, _, _ =>
    simp only [digOf, upto, List.range_succ, List.range_zero, List.nil_append, List.cons_append, List.map_cons, List.map_nil, val256, List.foldl_cons, List.foldl_nil]
    simp
    rw [e _ (by decide), e _ (by decide), e0]
    omega
  | 4, _, _ =>
    simp only [digOf, upto, List.range_succ, List.range_zero, List.nil_append, List.cons_append, List.map_cons, List.map_nil, val256, List.foldl_cons, List.foldl_nil]
    simp
    rw [e _ (by decide), e _ (by decide), e _ (by decide), e0]
    omega

theorem rowOf_size (many : Nat) (v : Int) : (rowOf many v).size = many := by
  simp [rowOf, byteArr, digOf, upto]
theorem rowOf_val {many : Nat} (h1 : 1 ≤ many) (h4 : many ≤ 4) {v : Int} (hv : 0 ≤ v) (hv' : v < 256 ^ many) : val256 (ofBytes (rowOf many v).toList) = v := by
  rw [rowOf, bytes_back fun n hn => digOf_range hn, digOf_val h1 h4 hv hv']

/-- values in order, each told by an int -/
structure OrdR (R : Int → Value → Prop) : Prop where
  lt : ∀ {prog : Program} {w : World} {A : Around} {E : Value → Shared → Prop} {s : Shared} {Q : Value → Shared → Prop} {x y u v}, R x u → R y v → Q (.bool (decide (x < y))) s → wpAny (model prog w) A (compareOp .Lt u v) Q E s
  gt : ∀ {prog : Program} {w : World} {A : Around} {E : Value → Shared → Prop} {s : Shared} {Q : Value → Shared → Prop} {x y u v}, R x u → R y v → Q (.bool (decide (y < x))) s → wpAny (model prog w) A (compareOp .Gt u v) Q E s
  eq : ∀ {prog : Program} {w : World} {A : Around} {E : Value → Shared → Prop} {s : Shared} {Q : Value → Shared → Prop} {x y u v}, R x u → R y v → Q (.bool (decide (x = y))) s → wpAny (model prog w) A (compareOp .Eq u v) Q E s
theorem ord_int : OrdR IsI where
  lt := fun ⟨t, e⟩ ⟨t', e'⟩ h => by subst e e'; exact PyProof.Rows.lt_int h
  gt := fun ⟨t, e⟩ ⟨t', e'⟩ h => by subst e e'; exact PyProof.Rows.gt_int h
  eq := fun ⟨t, e⟩ ⟨t', e'⟩ h => by subst e e'; exact PyProof.Rows.eq_int h
/-- a row of so many octets -/
def RB (many : Nat) (x : Int) (v : Value) : Prop := IsB (rowOf many x) v ∧ 0 ≤ x ∧ x < 256 ^ many
theorem ord_row {many : Nat} (h1 : 1 ≤ many) (h4 : many ≤ 4) : OrdR (RB many) := by
  have key : ∀ {x y : Int}, 0 ≤ x → x < 256 ^ many → 0 ≤ y → y < 256 ^ many → Builtin.Bytes.order (rowOf many x).toList (rowOf many y).toList = (if x < y then .lt else if y < x then .gt else .eq) := fun a b c d => by
    rw [order_val _ _ (by rw [Array.length_toList, Array.length_toList, rowOf_size, rowOf_size]), rowOf_val h1 h4 a b, rowOf_val h1 h4 c d]
  refine ⟨fun hu hv h => ?_, fun hu hv h => ?_, fun hu hv h => ?_⟩
  · obtain ⟨⟨t, rfl⟩, a, b⟩ := hu
    obtain ⟨⟨t', rfl⟩, c, d⟩ := hv
    refine lt_b ?_
    rw [key a b c d]
    split
    · simpa [*] using h
    · split <;> simpa [*] using h
  · obtain ⟨⟨t, rfl⟩, a, b⟩ := hu
    obtain ⟨⟨t', rfl⟩, c, d⟩ := hv
    refine gt_b ?_
    rw [key a b c d]
    split
    · have : ¬ _ < _ := Int.not_lt.mpr (Int.le_of_lt (by assumption))
      simpa [*] using h
    · split <;> simpa [*] using h
  · obtain ⟨⟨t, rfl⟩, a, b⟩ := hu
    obtain ⟨⟨t', rfl⟩, c, d⟩ := hv
    refine eq_bytes ?_
    rw [← order_eq, key a b c d]
    split
    · have : ¬ _ = _ := Int.ne_of_lt (by assumption)
      simpa [*] using h
    · split
      · have : ¬ _ = _ := fun e => Int.ne_of_lt (by assumption) (Eq.symm e)
        simpa [*] using h
      · have : _ = _ := Int.le_antisymm (Int.not_lt.mp (by assumption)) (Int.not_lt.mp (by assumption))
        simpa [*] using h
section
variable {prog : Program} {w : World} {A : Around} {E : Value → Shared → Prop} {base : Heap} {s : Shared} {Q : Value → Shared → Prop} {i j : Int} {u v : Value} {R : Int → Value → Prop}
theorem c_cmp (O : OrdR R) (C : Cx base w A s.heap 1) (hu : R i u) (hv : R j v) (h : ∀ t s', Keeps s s' → Q (.int (b2i (decide (j < i)) - b2i (decide (i < j))) t) s') : wpAny (model prog w) A (call (.ref 72) [u, v]) Q E s := by
  refine callP (n := 0) (kn := []) (binds := [(Str.ofString "x", u), (Str.ofString "y", v)]) C rfl rfl (BindsTo.of_eq rfl) rfl (by decide) rfl rfl rfl (fun _ h => nomatch h) fun A' L oL s₁ G H D => ?_
  have U := D.wd
  refine seqRet (wpAny_BinOp ?_)
  refine wpAny_Compare1 ?_
  walk_at "m_name"
  walk_at "m_name"
  refine O.gt hu hv ?_
  refine wpAny_Compare1 ?_
  walk_at "m_name"
  walk_at "m_name"
  refine O.lt hu hv ?_
  refine bSub G fun t s' G' => ?_
  exact h _ _ G'.keeps
end

theorem entry_unchain : entryFor table "proto.unchain" = some Builtin.«proto.unchain» := entryFor_of_tree (by kernel_rfl)
section
variable {α : Type} {prog : Program} {w : World} {A : Around} {E : Value → Shared → Prop} {s : Shared} {e1 : Addr} {oe1 : Obj} {vs1 : Array Value}
/-- an error raised while another is being handled that has no context -/
theorem raiseUnder {cls msg : String} {Q : α → Shared → Prop} (hp : PlainExc cls) (hh : A.handled = some (.ref e1)) (he1 : s.heap.get? e1 = some oe1) (hd1 : oe1.data = .fields vs1) (h2 : vs1[2]? = some .none)
    (h : ∀ h' tk e oe, NewX oe cls (.ref e1) → (∀ b o, s.heap.get? b = some o → h'.get? b = some o) → s.heap.get? e = none → h'.get? e = some oe → E (.ref e) { s with heap := h', toks := tk }) :
    wpAny (model prog w) A (raiseErrorWords cls msg : Sem α) Q E s := by
  unfold raiseErrorWords
  refine wpAny_bind (wpAny_mkText (wpAny_bind ?_))
  unfold newExc newTuple
  refine wpAny_bind (wpAny_newObj_type ?_)
  refine wpAny_bind (m := firstArgMember _ _) (wpAny_of_eq (a := Value.none) (by simp only [firstArgMember, hp.first]; rfl) ?_)
  rw [hp.own]
  refine wpAny_newObj_type ?_
  unfold raiseNew
  refine wpAny_bind (wpAny_handled ?_)
  rw [hh]
  dsimp only
  have hlt := Heap.lt_size he1
  have hne : e1 ≠ (s.heap.push { cls := .type "tuple", data := .seq #[.str (Str.ofString msg) s.toks] }).objs.size := Nat.ne_of_lt (by rw [Heap.size_push]; exact Nat.lt_succ_of_lt hlt)
  rw [if_pos (by simpa using hne)]
  refine wpAny_bind (wpAny_holding (wpAny_runValue (codeAny_builtin entry_unchain ?_)))
  have k1 := Heap.get?_push_of_some { cls := .type cls, data := .fields (#[.ref s.heap.objs.size, .none, .none, .none, .bool false, .none] ++ #[]) } (Heap.get?_push_of_some { cls := .type "tuple", data := .seq #[.str (Str.ofString msg) s.toks] } he1)
  refine wpAny_bind (wpAny_field k1 hd1 h2 ?_)
  rw [if_pos (by rfl)]
  refine wpAny_pure ?_
  have ke := Heap.get?_push_size (s.heap.push { cls := .type "tuple", data := .seq #[.str (Str.ofString msg) s.toks] }) (o := { cls := .type cls, data := .fields (#[.ref s.heap.objs.size, .none, .none, .none, .bool false, .none] ++ #[]) }) rfl
  refine wpAny_bind ?_
  unfold updateField
  refine wpAny_bind (wpAny_load ke ?_)
  dsimp only
  rw [if_pos (by simp)]
  refine wpAny_update ke (wpAny_throw ?_)
  refine h _ _ _ _ ⟨rfl, _, rfl, rfl, rfl⟩ (fun b o q => ?_) (Heap.get?_none_of_le (by rw [Heap.size_push]; omega)) (Heap.get?_update_self _ ke rfl)
  rw [Heap.get?_update_other _ _ (Nat.ne_of_gt (by rw [Heap.size_push]; exact Nat.lt_succ_of_lt (Heap.lt_size q)))]
  exact Heap.get?_push_of_some _ (Heap.get?_push_of_some _ q)
end

section
variable {prog : Program} {w : World} {A : Around} {E : Value → Shared → Prop} {base : Heap} {s₀ s : Shared} {nw kn : List (Addr × Obj)} {l e1 : Addr} {oe1 : Obj} {vs : List Value} {k : Nat} {Q : Value → Shared → Prop}
/-- nothing is being handled, or an exception of one's own that has no context -/
def Hand (A : Around) (nw : List (Addr × Obj)) (x : Value) : Prop := (A.handled = none ∧ x = .none) ∨ ∃ e1 oe1 vs1, A.handled = some (.ref e1) ∧ (e1, oe1) ∈ nw ∧ oe1.data = .fields vs1 ∧ vs1[2]? = some .none ∧ x = .ref e1
theorem lOut {value slice : Expr} {n : Int} {u : Tok} {x : Value} (G : Pur base s₀ s nw kn) (hm : (l, lst vs k) ∈ nw ∨ (l, lst vs k) ∈ kn) (hH : Hand A nw x) (h0 : (vs.length : Int) ≤ n) (h1 : n < 2 ^ 63)
    (hs : subscripted slice false (.ref l) (.int n u) = operate [.ref l, .int n u] (getItem (.ref l) (.int n u)))
    (h : ∀ e oe s', NewX oe "IndexError" x → Pur base s₀ s' ((e, oe) :: nw) kn → E (.ref e) s') : wpAny (model prog w) A (subscriptTail value slice (.ref l) (.int n u)) Q E s := by
  refine tail_any (G.list hm).typeIs slot_list_getitem.lookup ?_ hs
  rcases hH with ⟨hh, rfl⟩ | ⟨e1, oe1, vs1, hh, he1, hd1, h2, rfl⟩
  · refine wpAny_getItem_list_out hh (G.list hm) (.inr (by simpa using h0)) (by omega) h1 fun h' tk e hx => ?_
    obtain ⟨ob, t, ho, hc, hd⟩ := hx.there
    exact h e ob _ ⟨hc, _, hd, rfl, rfl⟩ (Pur.new (s := s) G ⟨_, _, rfl, hx.keeps⟩ hx.new ho)
  · obtain ⟨o, ho, hc, ne, hd⟩ := id (G.list hm)
    unfold getItem
    try with_reducible refine wpAny_holding ?_
    first | refine wpAny_bind (wpAny_pure ?_) | skip
    refine wpAny_bind (wpAny_sequenceKey (G.list hm).typeIs (by decide) ?_)
    refine wpAny_bind (wpAny_callSpecial?_slot (name := Str.ofString "__getitem__") (G.list hm).typeIs slot_list_getitem
      (wpAny_call_entry slot_list_getitem (G.list hm).typeIs entry_list_getitem ?_ (args_list_getitem _ _)))
    show wpAny _ _ (Builtin.List.listSubscript? (.int n u) >>= _) _ _ s
    refine wpAny_bind (wpAny_listSubscript_int (fitsIndex_both (by omega) h1) ?_)
    obtain ⟨j, rfl⟩ : ∃ j : Nat, n = Int.ofNat j := ⟨n.toNat, by show n = ((n.toNat : Nat) : Int); omega⟩
    have hx : vs.toArray[j]? = none := Array.getElem?_eq_none (by have : (vs.length : Int) ≤ (j : Int) := h0; simp; omega)
    show wpAny _ _ ((seqItemAt l j >>= fun r => pure (r.map (j, ·))) >>= _) _ _ s
    refine wpAny_bind (wpAny_bind (wpAny_seqItemAt ho hd (wpAny_pure ?_)))
    rw [hx]
    have fin := fun h' tk e oe (a : NewX oe "IndexError" (.ref e1)) (b : ∀ b o, s.heap.get? b = some o → h'.get? b = some o) (c : s.heap.get? e = none) (d : h'.get? e = some oe) => h e oe _ a (Pur.new (s := s) G ⟨h', tk, rfl, b⟩ c d)
    first
      | exact wpAny_bind (wpAny_rule (raiseUnder plainExc_IndexError hh (G.get (.inl he1)) hd1 h2 fin))
      | exact wpAny_bind (wpAny_rule (wpAny_bind (raiseUnder plainExc_IndexError hh (G.get (.inl he1)) hd1 h2 fin)))
      | exact wpAny_bind (wpAny_bind (wpAny_rule (raiseUnder plainExc_IndexError hh (G.get (.inl he1)) hd1 h2 fin)))
      | exact wpAny_rule (raiseUnder plainExc_IndexError hh (G.get (.inl he1)) hd1 h2 fin)
end

-- plain: two ascending lists walked at once
abbrev notIn (ys : List Int) (x : Int) : Bool := !(ys.any fun y => y == x)
theorem notIn_iff {ys : List Int} {x : Int} : notIn ys x = true ↔ x ∉ ys := by
  simp [notIn, List.any_eq_true]
  constructor
  · intro h hm; exact h x hm rfl
  · intro h y hy e; exact h (e ▸ hy)
structure Inv (xs ys : List Int) (i j : Nat) (ms us : List Int) : Prop where
  hi : i ≤ xs.length
  hj : j ≤ ys.length
  em : ms = (xs.take i).filter (notIn ys)
  eu : us = (ys.take j).filter (notIn xs)
  lo : ∀ x ∈ xs.take i, ∀ y ∈ ys.drop j, x < y
  up : ∀ y ∈ ys.take j, ∀ x ∈ xs.drop i, y < x
theorem Inv.start (xs ys : List Int) : Inv xs ys 0 0 [] [] := ⟨Nat.zero_le _, Nat.zero_le _, rfl, rfl, fun _ h => by simp at h, fun _ h => by simp at h⟩
theorem Inv.swap {xs ys ms us : List Int} {i j : Nat} (I : Inv xs ys i j ms us) : Inv ys xs j i us ms := ⟨I.hj, I.hi, I.eu, I.em, I.up, I.lo⟩
theorem drop_at {xs : List Int} {i : Nat} {x : Int} (h : xs[i]? = some x) : xs.drop i = x :: xs.drop (i + 1) := by
  rw [List.drop_eq_getElem?_toList_append, h]; rfl
theorem take_at {xs : List Int} {i : Nat} {x : Int} (h : xs[i]? = some x) : xs.take (i + 1) = xs.take i ++ [x] := by
  rw [List.take_add_one, h]; rfl
theorem drop_lt {xs : List Int} (S : xs.Pairwise (· < ·)) {i : Nat} {x : Int} (h : xs[i]? = some x) : ∀ z ∈ xs.drop (i + 1), x < z := by
  have := List.Pairwise.sublist (List.drop_sublist i xs) S
  rw [drop_at h] at this
  exact (List.pairwise_cons.mp this).1
theorem Inv.lt {xs ys ms us : List Int} {i j : Nat} {x y : Int} (I : Inv xs ys i j ms us) (SX : xs.Pairwise (· < ·)) (SY : ys.Pairwise (· < ·)) (hx : xs[i]? = some x) (hy : ys[j]? = some y) (h : x < y) : Inv xs ys (i + 1) j (ms ++ [x]) us := by
  have hxi : i < xs.length := (List.getElem?_eq_some_iff.mp hx).1
  have hdy : ∀ z ∈ ys.drop j, x < z := by
    intro z hz
    rw [drop_at hy] at hz
    rcases List.mem_cons.mp hz with rfl | hz
    · exact h
    · exact Int.lt_trans h (drop_lt SY hy z hz)
  have hn : x ∉ ys := by
    intro hm
    rw [← List.take_append_drop j ys] at hm
    rcases List.mem_append.mp hm with hm | hm
    · have := I.up x hm x (by rw [drop_at hx]; exact List.mem_cons_self ..); omega
    · have := hdy x hm; omega
  refine ⟨hxi, I.hj, ?_, I.eu, fun z hz w hw => ?_, fun z hz w hw => I.up z hz w ?_⟩
  · rw [take_at hx, List.filter_append, ← I.em, List.filter_cons_of_pos (notIn_iff.mpr hn)]; rfl
  · rw [take_at hx] at hz
    rcases List.mem_append.mp hz with hz | hz
    · exact I.lo z hz w hw
    · rw [List.mem_singleton.mp hz]; exact hdy w hw
  · rw [drop_at hx]; exact List.mem_cons_of_mem _ hw
theorem Inv.gt {xs ys ms us : List Int} {i j : Nat} {x y : Int} (I : Inv xs ys i j ms us) (SX : xs.Pairwise (· < ·)) (SY : ys.Pairwise (· < ·)) (hx : xs[i]? = some x) (hy : ys[j]? = some y) (h : y < x) : Inv xs ys i (j + 1) ms (us ++ [y]) :=
  (I.swap.lt SY SX hy hx h).swap
theorem Inv.eq {xs ys ms us : List Int} {i j : Nat} {x : Int} (I : Inv xs ys i j ms us) (SX : xs.Pairwise (· < ·)) (SY : ys.Pairwise (· < ·)) (hx : xs[i]? = some x) (hy : ys[j]? = some x) : Inv xs ys (i + 1) (j + 1) ms us := by
  have hxi : i < xs.length := (List.getElem?_eq_some_iff.mp hx).1
  have hyj : j < ys.length := (List.getElem?_eq_some_iff.mp hy).1
  refine ⟨hxi, hyj, ?_, ?_, fun z hz w hw => ?_, fun z hz w hw => ?_⟩
  · rw [take_at hx, List.filter_append, ← I.em, List.filter_cons_of_neg (by rw [notIn_iff]; exact fun q => q (List.mem_of_getElem? hy))]; simp
  · rw [take_at hy, List.filter_append, ← I.eu, List.filter_cons_of_neg (by rw [notIn_iff]; exact fun q => q (List.mem_of_getElem? hx))]; simp
  · rw [take_at hx] at hz
    rcases List.mem_append.mp hz with hz | hz
    · exact I.lo z hz w (by rw [drop_at hy]; exact List.mem_cons_of_mem _ hw)
    · rw [List.mem_singleton.mp hz]; exact drop_lt SY hy w hw
  · rw [take_at hy] at hz
    rcases List.mem_append.mp hz with hz | hz
    · exact I.up z hz w (by rw [drop_at hx]; exact List.mem_cons_of_mem _ hw)
    · rw [List.mem_singleton.mp hz]; exact drop_lt SX hx w hw
theorem Inv.half {xs ys ms us : List Int} {i j : Nat} (I : Inv xs ys i j ms us) (h : i = xs.length ∨ j = ys.length) : ms ++ xs.drop i = xs.filter (notIn ys) := by
  have e : (xs.drop i).filter (notIn ys) = xs.drop i := by
    refine List.filter_eq_self.mpr fun x hx => notIn_iff.mpr fun hm => ?_
    rcases h with rfl | rfl
    · simp at hx
    · have := I.up x (by simpa using hm) x hx
      omega
  conv => rhs; rw [← List.take_append_drop i xs, List.filter_append, e]
  rw [I.em]
theorem Inv.done {xs ys ms us : List Int} {i j : Nat} (I : Inv xs ys i j ms us) (h : i = xs.length ∨ j = ys.length) : ms ++ xs.drop i = xs.filter (notIn ys) ∧ us ++ ys.drop j = ys.filter (notIn xs) :=
  ⟨I.half h, I.swap.half h.symm⟩

section
variable {prog : Program} {w : World} {A : Around} {E : Value → Shared → Prop} {base : Heap} {s₀ s : Shared} {nw kn : List (Addr × Obj)} {env : Env} {Q : Value → Shared → Prop} {D b : Addr} {vs ws : List Value} {k k' : Nat}
theorem lExt (G : Pur base s₀ s nw kn) (g : Obj → List (Addr × Obj)) (R : ∀ o', Rep D (lst vs k) o' nw (g o')) (hm : (b, lst ws k') ∈ nw ∨ (b, lst ws k') ∈ kn) (hz : vs.length + ws.length ≤ sizeLine)
    (h : ∀ k2 s', Pur base s₀ s' (g (lst (vs ++ ws) k2)) kn → Q .none s') : wpAny (model prog w) A (call (.builtin "list.extend") [.ref D, .ref b]) Q E s := by
  have ho := G.get (.inl (R (lst vs k)).mem)
  have hb := G.get hm
  refine call_meets F.slot_list_extend ⟨_, ho, rfl⟩ F.entry_list_extend (F.args_list_extend_2 _ _) (AutoSeq1.list_extend_list_list_0 D vs.toArray k b ws.toArray k' (by simp [Builtin.List.listTooLong]; omega) (by simp; omega) (by simp; omega)) ⟨ho, hb, ?_⟩
  have e : Obj.mapSeq (fun x => x ++ ws.toArray) (lst vs k) = lst (vs ++ ws) (if (vs.toArray ++ ws.toArray).size == vs.toArray.size then k else k + 1) := by
    simp [Obj.mapSeq]
  refine h (if (vs.toArray ++ ws.toArray).size == vs.toArray.size then k else k + 1) _ (G.change (R _) ⟨_, _, rfl⟩ (fun b z hb q => (Heap.SameBut.update ..).extBut b z hb q) ?_)
  rw [← e]
  exact Heap.get?_update_self _ ho rfl
theorem extS {o : Expr} {e : Expr} {apos pos spos : Pos} {Post : Shared → Prop} {pl : Sem Bool}
    (h : wpAny (model prog w) A (eval o env) (fun ov s₁ => ∃ l vs k nw, ov = .ref l ∧ Pur base s₀ s₁ nw kn ∧ ((l, lst vs k) ∈ nw ∨ (l, lst vs k) ∈ kn) ∧ wpAny (model prog w) A (eval e env) (fun v s₂ => wpAny (model prog w) A (call (.builtin "list.extend") [.ref l, v]) (fun r s' => r = .none ∧ Post s') E s₂) E s₁) E s)
    (hi : interactive env = false := by rfl)
    (he : starEach (e :: []) env = (false, eval e env) :: starEach [] env := by rfl)
    (hc : eval (.Call (.Attribute o (Str.ofString "extend") apos) [e] [] pos) env = (do let ov ← eval o env; standAt apos.atName; let (f, first) ← holding [ov] (getMethod ov (Str.ofString "extend") pl); callWith pos f first (backTo pos (starEach [e] env)) []) := by rfl) :
    wpAny (model prog w) A (exec (.Expr (.Call (.Attribute o (Str.ofString "extend") apos) [e] [] pos) spos) env) (fun f s' => f = .next ∧ Post s') E s := by
  refine wpAny_Expr (MethodCall_ (wpAny_mono h (fun ov s₁ h₁ => ?_) fun _ _ x => x) hc) hi rfl
  obtain ⟨l, vs, k, nw, rfl, G, hm, h₂⟩ := h₁
  refine getMethod_builtin (G.list hm).typeIs PySem.F.plainAttrs_list PySem.F.slot_list_extend PySem.F.type_list_extend (fun a ea => ?_) ?_
  · cases ea; exact ⟨_, G.get hm, rfl⟩
  · refine callWith_method1 (spliced_more (wpAny_mono h₂ (fun v s₂ h₃ => spliced_none (wpAny_mono h₃ (fun r s' hr => ?_) fun _ _ x => x)) fun _ _ x => x) he) he
    obtain ⟨rfl, hp⟩ := hr
    exact ⟨rfl, hp⟩
end

section
variable {prog : Program} {w : World} {A : Around} {E : Value → Shared → Prop} {base : Heap} {s₂ s : Shared} {nw kn : List (Addr × Obj)} {env : Env} {R : Int → Value → Prop}
/-- while xs[i] == e, where what stands there is another, or nothing -/
theorem d_while {xE xI xV : Str} {p1 p2 p3 p4 p5 p6 : Pos} {body : List Stmt} {l : Addr} {vs : List Value} {k idx : Nat} {zs : List Int} {x0 : Int} {v x : Value} {t : Tok} {oL : Obj} {m : Str → Option Value} {Q : Flow → Shared → Prop} (O : OrdR R)
    (G : Pur base s₂ s nw kn) (hL : (env.locals, oL) ∈ nw) (H : NsO oL m) (hk : env.scope.kind = .function) (kE : env.kindOf xE = some .local) (kI : env.kindOf xI = some .local) (kV : env.kindOf xV = some .local)
    (dE : (xE == ("__debug__" : Str)) = false) (dI : (xI == ("__debug__" : Str)) = false) (dV : (xV == ("__debug__" : Str)) = false)
    (eE : m xE = some (.ref l)) (eI : m xI = some (.int (idx : Int) t)) (eV : m xV = some v) (hv : R x0 v) (hl : (l, lst vs k) ∈ kn) (hP : Paired R zs vs) (hsz : zs.length ≤ 1000) (hidx : idx ≤ zs.length) (hne : ∀ z, zs[idx]? = some z → z ≠ x0) (hH : Hand A nw x)
    (h1 : idx < zs.length → Q .next s) (h2 : idx = zs.length → ∀ e oe s', NewX oe "IndexError" x → Pur base s₂ s' ((e, oe) :: nw) kn → notedBy (model prog w) A env (cameBackBy (model prog w) A env E) (.ref e) s') :
    wpAny (model prog w) A (exec (.While (.Compare (.Subscript (.Name xE p1) (.Name xI p2) p3) [.Eq] [.Name xV p4] p5) body [] p6) env) Q E s := by
  have hvl : vs.length = zs.length := paired_len hP
  refine wpAny_While (codeAny_whileLoop (fun n s' => s' = s) (fun n s' e => ?_) 0 rfl)
  subst e
  refine wpAny_isTrue_Compare1 ?_
  refine Subscript_ ?_
  refine nLoc G (.inl hL) H eE hk kE dE ?_
  refine nLoc G (.inl hL) H eI hk kI dI ?_
  by_cases hlt : idx < zs.length
  · obtain ⟨u, hu, hR⟩ := paired_getL hP (List.getElem?_eq_getElem hlt)
    refine lItem G (.inr hl) (by omega) (by omega) (v := u) (by simpa using hu) (by rfl) ?_
    refine nLoc G (.inl hL) H eV hk kV dV ?_
    refine O.eq hR hv ?_
    refine wpAny_truthy_bool ?_
    rw [if_neg (by simpa using hne _ (List.getElem?_eq_getElem hlt))]
    exact wpAny_execs_nil (h1 hlt)
  · exact lOut G (.inr hl) hH (by omega) (by omega) (by rfl) fun e oe s' hx G' => h2 (by omega) e oe s' hx G'
end

/-- the frame of sorted_list_difference -/
def DSt (P : (Str → Option Value) → Prop) (base : Heap) (R : Int → Value → Prop) (L M U le la : Addr) (vs ws : List Value) (kE kA i j : Nat) (ms us : List Int) (extra : List (Addr × Obj)) (s₂ s' : Shared) : Prop :=
  ∃ oL m mv uv kM kU ti tj, Pur base s₂ s' (extra ++ [(M, lst mv kM), (U, lst uv kU), (L, oL)]) [(le, lst vs kE), (la, lst ws kA)] ∧ NsO oL m ∧ Paired R ms mv ∧ Paired R us uv ∧
    m (Str.ofString "expected") = some (.ref le) ∧ m (Str.ofString "actual") = some (.ref la) ∧ m (Str.ofString "missing") = some (.ref M) ∧ m (Str.ofString "unexpected") = some (.ref U) ∧ m (Str.ofString "i") = some (.int (i : Int) ti) ∧ m (Str.ofString "j") = some (.int (j : Int) tj) ∧ P m
/-- what stands around the frame -/
structure Fx (base : Heap) (s : Shared) (fs : List Addr) (L : Addr) (env : Env) (outer : List Env) (kn : List (Addr × Obj)) : Prop where
  ff : ∀ (s₂ s' : Shared) nw oL m, Heap.SlotsOnly fs s.heap s₂.heap → Pur base s₂ s' nw kn → (L, oL) ∈ nw → NsO oL m → s'.heap.FunFrames base (env :: outer)
  f0 : ∀ s₂ : Shared, Heap.SlotsOnly fs s.heap s₂.heap → ∀ b ∈ fs, base.get? b = none ∧ ∃ o es k, s₂.heap.get? b = some o ∧ o.data = .dict es k
  fr : env.frame = some L
  os : fs = outer.filterMap (·.frame)
  kn : ∀ p ∈ kn, ∀ es k, p.2.data ≠ .dict es k
def DNew (base : Heap) (s : Shared) (fs : List Addr) (St : List (Addr × Obj) → Shared → Shared → Prop) (x : Value) (e : Value) (s' : Shared) : Prop :=
  ∃ ea oe, ∃ s₂ : Shared, e = .ref ea ∧ s₂ = { s with heap := s₂.heap } ∧ Heap.SlotsOnly fs s.heap s₂.heap ∧ NewX oe "IndexError" x ∧ St [(ea, oe)] s₂ s'
def DX (base : Heap) (s : Shared) (fs : List Addr) (St : List (Addr × Obj) → Shared → Shared → Prop) (fl x : Value) (e : Value) (s' : Shared) : Prop :=
  ∃ ea oe T oT, ∃ s₂ : Shared, e = .ref ea ∧ s₂ = { s with heap := s₂.heap } ∧ Heap.SlotsOnly fs s.heap s₂.heap ∧ Trc oe T oT fl "IndexError" x ∧ St [(T, oT), (ea, oe)] s₂ s'

section
variable {prog : Program} {w : World} {A : Around} {E : Value → Shared → Prop} {base : Heap} {s s' : Shared} {env : Env} {outer : List Env} {fs : List Addr} {R : Int → Value → Prop} {L M U le la : Addr} {vs ws : List Value} {kE kA i j : Nat} {ms us : List Int} {x e fl : Value} {Q : Unit → Shared → Prop} {P : (Str → Option Value) → Prop}
theorem d_note (F : Fx base s fs L env outer [(le, lst vs kE), (la, lst ws kA)]) (hfr : A.frames = some (env :: outer)) (hN : DNew base s fs (DSt P base R L M U le la vs ws kE kA i j ms us) x e s')
    (h : ∀ s'', DX base s fs (DSt P base R L M U le la vs ws kE kA i j ms us) (rawInt L) x e s'' → Q () s'') : wpAny (model prog w) A (noteFrame e env) Q E s' := by
  obtain ⟨ea, oe, s₂, rfl, e2, y, hx, oL, m, mv, uv, kM, kU, ti, tj, G, H, r⟩ := hN
  refine note1 (L := L) (F.ff s₂ s' _ oL m y G (by walk_at "m_mem") H) (by rw [← F.os]; exact F.f0 s₂ y) G hfr F.fr F.kn (fun o => [(ea, oe), (M, lst mv kM), (U, lst uv kU), (L, o)]) (fun o => .tail (.tail (.tail .head))) (fun o q => [(ea, q), (M, lst mv kM), (U, lst uv kU), (L, o)]) (fun o q => .head) hx fun s0 sl oe' T oT s'' e3 y3 hT G' => ?_
  refine h s'' ⟨ea, oe', T, oT, s0, rfl, by rw [e3, e2], y.trans (by rw [F.os]; exact y3), hT, _, m, mv, uv, kM, kU, ti, tj, G', NsO.slots H _, r⟩
theorem d_on (F : Fx base s fs L env outer [(le, lst vs kE), (la, lst ws kA)]) (hX : DX base s fs (DSt P base R L M U le la vs ws kE kA i j ms us) (rawInt L) x e s') (h : Q () s') : wpAny (model prog w) A (noteFrame e env) Q E s' := by
  obtain ⟨ea, oe, T, oT, s₂, rfl, e2, y, hT, oL, m, mv, uv, kM, kU, ti, tj, G, H, r⟩ := hX
  exact noteOn (L := L) (T := T) (oT := oT) G F.fr (.tail _ (.head _)) (.head _) hT h
theorem d_either (F : Fx base s fs L env outer [(le, lst vs kE), (la, lst ws kA)]) (hfr : A.frames = some (env :: outer)) (hN : DNew base s fs (DSt P base R L M U le la vs ws kE kA i j ms us) x e s' ∨ DX base s fs (DSt P base R L M U le la vs ws kE kA i j ms us) (rawInt L) x e s')
    (h : ∀ s'', DX base s fs (DSt P base R L M U le la vs ws kE kA i j ms us) (rawInt L) x e s'' → Q () s'') : wpAny (model prog w) A (noteFrame e env) Q E s' := by
  rcases hN with hN | hX
  · exact d_note F hfr hN h
  · exact d_on F hX (h _ hX)
theorem d_ground (hX : DX base s fs (DSt P base R L M U le la vs ws kE kA i j ms us) fl x e s') (h : ∀ s'', DX base s fs (DSt P base R L M U le la vs ws kE kA i j ms us) .none x e s'' → Q () s'') : wpAny (model prog w) A (setFlight e none) Q E s' := by
  obtain ⟨ea, oe, T, oT, s₂, rfl, e2, y, hT, oL, m, mv, uv, kM, kU, ti, tj, G, H, r⟩ := hX
  exact grounded (T := T) (oT := oT) G (.tail _ (.head _)) (fun o => [(T, o), (ea, oe), (M, lst mv kM), (U, lst uv kU), (L, oL)]) (fun o => .head) hT fun oT' s'' hT' G' => h s'' ⟨ea, oe, T, oT', s₂, rfl, e2, y, hT', oL, m, mv, uv, kM, kU, ti, tj, G', H, r⟩
theorem d_back (F : Fx base s fs L env outer [(le, lst vs kE), (la, lst ws kA)]) (hX : DX base s fs (DSt P base R L M U le la vs ws kE kA i j ms us) fl x e s') (h : ∀ s'', DX base s fs (DSt P base R L M U le la vs ws kE kA i j ms us) (rawInt L) x e s'' → E e s'') : cameBackBy (model prog w) A env E e s' := by
  obtain ⟨ea, oe, T, oT, s₂, rfl, e2, y, hT, oL, m, mv, uv, kM, kU, ti, tj, G, H, r⟩ := hX
  exact cameBack (L := L) (T := T) (oT := oT) G F.fr (.tail _ (.head _)) (fun o => [(T, o), (ea, oe), (M, lst mv kM), (U, lst uv kU), (L, oL)]) (fun o => .head) hT fun oT' s'' hT' G' => h s'' ⟨ea, oe, T, oT', s₂, rfl, e2, y, hT', oL, m, mv, uv, kM, kU, ti, tj, G', H, r⟩
theorem d_pass {Q : Flow → Shared → Prop} {what : String} (F : Fx base s fs L env outer [(le, lst vs kE), (la, lst ws kA)]) (hX : DX base s fs (DSt P base R L M U le la vs ws kE kA i j ms us) fl x e s') (h : ∀ s'', DX base s fs (DSt P base R L M U le la vs ws kE kA i j ms us) (rawInt L) x e s'' → E e s'') : wpAny (model prog w) A (passOn what e env) Q E s' := by
  obtain ⟨ea, oe, T, oT, s₂, rfl, e2, y, hT, oL, m, mv, uv, kM, kU, ti, tj, G, H, r⟩ := hX
  obtain ⟨xs, hd, h1, _⟩ := hT.data
  unfold PySem.passOn
  refine wpAny_bind (wpAny_field (G.get (.inl (.tail _ (.head _)))) hd h1 ?_)
  rw [if_neg (show ¬ ((Value.ref T == Value.none) = true) from by simp)]
  rw [F.fr]
  exact wpAny_bind (aloft (L := L) (T := T) (oT := oT) G (.tail _ (.head _)) (fun o => [(T, o), (ea, oe), (M, lst mv kM), (U, lst uv kU), (L, oL)]) (fun o => .head) hT fun oT' s'' hT' G' => wpAny_throw (h s'' ⟨ea, oe, T, oT', s₂, rfl, e2, y, hT', oL, m, mv, uv, kM, kU, ti, tj, G', H, r⟩))
end

section
variable {prog : Program} {w : World} {A : Around} {E : Value → Shared → Prop} {base : Heap} {s : Shared} {Q : Value → Shared → Prop} {R : Int → Value → Prop}
theorem slice_from' {vs : List Value} {i : Nat} : (slicePick vs.toArray (some (i : Int)) none none).toList = vs.drop i := by
  rw [slicePick_from']
theorem paired_drop {xs : List Int} {vs : List Value} (h : Paired R xs vs) (i : Nat) : Paired R (xs.drop i) (vs.drop i) := by
  refine paired_of_get (by rw [List.length_drop, List.length_drop, paired_len h]) fun j v hj => ?_
  rw [List.getElem?_drop] at hj ⊢
  exact paired_get h hj
theorem hand_none {A : Around} (h : A.handled = none) (nw : List (Addr × Obj)) : Hand A nw .none := .inl ⟨h, rfl⟩
set_option maxHeartbeats 16000000 in
theorem c_diff {le la : Addr} {vs ws : List Value} {kE kA : Nat} {xs ys : List Int} (O : OrdR R) (C : Cx base w A s.heap 1) (hle : s.heap.get? le = some (lst vs kE)) (hla : s.heap.get? la = some (lst ws kA)) (hxs : Paired R xs vs) (hys : Paired R ys ws)
    (SX : xs.Pairwise (· < ·)) (SY : ys.Pairwise (· < ·)) (zx : xs.length ≤ 100) (zy : ys.length ≤ 100)
    (h : ∀ (s₂ : Shared) T M U kM kU mv uv s', s₂ = { s with heap := s₂.heap } → Heap.SlotsOnly (frs A) s.heap s₂.heap → Paired R (xs.filter (notIn ys)) mv → Paired R (ys.filter (notIn xs)) uv → Pur base s₂ s' [(T, tup [.ref M, .ref U] 0), (M, lst mv kM), (U, lst uv kU)] [] → Q (.ref T) s') :
    wpAny (model prog w) A (call (.ref 65) [.ref le, .ref la]) Q E s := by
  refine callX (s₀ := s) (n := 0) (nw := []) (kn := [(le, lst vs kE), (la, lst ws kA)]) (binds := [(Str.ofString "expected", .ref le), (Str.ofString "actual", .ref la)]) C (Pur.start C.st fun p hp => ?_) rfl rfl (BindsTo.of_eq rfl) rfl (by decide) rfl rfl rfl fun A' L oL s₁ outer ho1 ho2 hfr hA G H D DD => ?_
  · rcases List.mem_cons.mp hp with rfl | hp
    · exact hle
    · rw [List.mem_singleton.mp hp]; exact hla
  have U := D.wd
  have hh := D.hh
  have F : Fx base s (frs A) L _ outer [(le, lst vs kE), (la, lst ws kA)] := ⟨fun s₂ s' nw oL m y G hm H => ((DD s₂ y).here s' nw oL m G hm H).ff hfr, fun s₂ y => (C.slots y).frames, rfl, ho2, fun p hp es k => by
    rcases List.mem_cons.mp hp with rfl | hp
    · exact fun q => nomatch q
    · rw [List.mem_singleton.mp hp]; exact fun q => nomatch q⟩
  obtain ⟨m0, H0, e0, e0'⟩ : ∃ m0, NsO oL m0 ∧ m0 (Str.ofString "expected") = some (.ref le) ∧ m0 (Str.ofString "actual") = some (.ref la) := ⟨_, H, rfl, rfl⟩
  clear H
  -- i = j = 0
  refine seq (fun s' => ∃ oL m t, Pur base s s' [(L, oL)] [(le, lst vs kE), (la, lst ws kA)] ∧ NsO oL m ∧ m (Str.ofString "expected") = some (.ref le) ∧ m (Str.ofString "actual") = some (.ref la) ∧ m (Str.ofString "i") = some (.int 0 t) ∧ m (Str.ofString "j") = some (.int 0 t)) ?_ ?_
  · refine wpAny_Assign_two ?_ (by with_unfolding_all rfl) (by with_unfolding_all rfl)
    walk_at "m_e"
    refine wpAny_assign_Name ?_
    walk_at "m_sL"
    intro o1 s1 G1 H1
    refine wpAny_assign_Name ?_
    walk_at "m_sL"
    intro o2 s2 G2 H2
    exact ⟨rfl, o2, _, _, G2, H2, e0, e0', rfl, rfl⟩
  rintro s2 ⟨oL2, m2, t2, G2, H2, a1, a2, a3, a4⟩
  refine seq (fun s' => ∃ M oL m t, Pur base s s' [(M, lst [] 0), (L, oL)] [(le, lst vs kE), (la, lst ws kA)] ∧ NsO oL m ∧ m (Str.ofString "expected") = some (.ref le) ∧ m (Str.ofString "actual") = some (.ref la) ∧ m (Str.ofString "i") = some (.int 0 t) ∧ m (Str.ofString "j") = some (.int 0 t) ∧ m (Str.ofString "missing") = some (.ref M)) ?_ ?_
  · refine wpAny_Assign_Name (List_ (spliced_none ?_))
    refine lNew G2 (by decide) fun M s3 G3 => ?_
    walk_at "m_sL"
    intro o' s' G' H'
    exact ⟨rfl, M, o', _, t2, G', H', a1, a2, a3, a4, rfl⟩
  rintro s3 ⟨M, oL3, m3, t3, G3, H3, b1, b2, b3, b4, b5⟩
  refine seq (fun s' => ∃ V, DSt (fun _ => True) base R L M V le la vs ws kE kA 0 0 [] [] [] s s') ?_ ?_
  · refine wpAny_Assign_Name (List_ (spliced_none ?_))
    refine lNew G3 (by decide) fun V s4 G4 => ?_
    walk_at "m_sL"
    intro o' s' G' H'
    have G5 : Pur base s s' [(M, lst [] 0), (V, lst [] 0), (L, o')] [(le, lst vs kE), (la, lst ws kA)] := by
      exact G'.perm (List.Perm.swap _ _ _)
    exact ⟨rfl, V, o', _, [], [], 0, 0, t3, t3, G5, H', .nil, .nil, b1, b2, b5, rfl, b3, b4, trivial⟩
  rintro s4 ⟨V, St4⟩
  clear G G2 G3 H0 H2 H3
  -- while True
  refine wpAny_execs_cons (wpAny_While (codeAny_whileLoop (fun n s' => ∃ i j ms us, n = xs.length - i + (ys.length - j) ∧ Inv xs ys i j ms us ∧ DSt (fun _ => True) base R L M V le la vs ws kE kA i j ms us [] s s') ?_ _ ⟨0, 0, [], [], rfl, Inv.start xs ys, St4⟩))
  rintro n s5 ⟨i, j, ms, us, rfl, I, oL5, m5, mv, uv, kM, kU, ti, tj, G5, H5, hm5, hu5, c1, c2, c3, c4, c5, c6, -⟩
  refine wpAny_isTrue_value (wpAny_Constant_bool ?_)
  walk_at "m_e"
  rw [if_pos rfl]
  have zvx : vs.length = xs.length := paired_len hxs
  have zvy : ws.length = ys.length := paired_len hys
  let J : Value → Shared → Prop := fun e s' => ∃ x i j ms us, Inv xs ys i j ms us ∧ (i = xs.length ∨ j = ys.length) ∧ (DNew base s (frs A) (DSt (fun _ => True) base R L M V le la vs ws kE kA i j ms us) x e s' ∨ DX base s (frs A) (DSt (fun _ => True) base R L M V le la vs ws kE kA i j ms us) (rawInt L) x e s')
  refine wpAny_execs_cons (wpAny_Try_except ?_)
  refine wpAny_mono (Q := fun f s' => f = .next ∧ ∃ i' j' ms us, xs.length - i' + (ys.length - j') < xs.length - i + (ys.length - j) ∧ Inv xs ys i' j' ms us ∧ DSt (fun _ => True) base R L M V le la vs ws kE kA i' j' ms us [] s s') (E := J) ?_ ?_ ?_
  · -- e = expected[i]
    have hmsl : ms.length ≤ 100 := by rw [I.em]; exact Nat.le_trans (List.length_filter_le _ _) (by rw [List.length_take]; omega)
    have husl : us.length ≤ 100 := by rw [I.eu]; exact Nat.le_trans (List.length_filter_le _ _) (by rw [List.length_take]; omega)
    have hmvl : mv.length = ms.length := paired_len hm5
    have huvl : uv.length = us.length := paired_len hu5
    have hii := I.hi
    have hjj := I.hj
    refine seq (fun s' => i < xs.length ∧ ∃ oL m v x, Pur base s s' [(M, lst mv kM), (V, lst uv kU), (L, oL)] [(le, lst vs kE), (la, lst ws kA)] ∧ NsO oL m ∧ xs[i]? = some x ∧ R x v ∧
      m (Str.ofString "expected") = some (.ref le) ∧ m (Str.ofString "actual") = some (.ref la) ∧ m (Str.ofString "missing") = some (.ref M) ∧ m (Str.ofString "unexpected") = some (.ref V) ∧ m (Str.ofString "i") = some (.int (i : Int) ti) ∧ m (Str.ofString "j") = some (.int (j : Int) tj) ∧ m (Str.ofString "e") = some v) ?_ ?_
    · refine wpAny_Assign_Name ?_
      iterate 3 walk_at "m_e"
      by_cases hlt : i < xs.length
      · obtain ⟨v, hv, hR⟩ := paired_getL hxs (List.getElem?_eq_getElem hlt)
        refine lItem (by assumption) (.inr (by walk_at "m_mem")) (by omega) (by omega) (v := v) (by simpa using hv) (by rfl) ?_
        walk_at "m_sL"
        intro o' s6 G6 H6
        exact ⟨rfl, hlt, o', _, v, _, G6, H6, List.getElem?_eq_getElem hlt, hR, c1, c2, c3, c4, c5, c6, rfl⟩
      · refine lOut G5 (.inr (by walk_at "m_mem")) (hand_none hh _) (by omega) (by omega) (by rfl) fun e oe s6 hx G6 => ?_
        exact ⟨.none, i, j, ms, us, I, .inl (by omega), .inl ⟨e, oe, s, rfl, rfl, .refl _ _, hx, oL5, m5, mv, uv, kM, kU, ti, tj, G6, H5, hm5, hu5, c1, c2, c3, c4, c5, c6, trivial⟩⟩
    rintro s6 ⟨hi6, oL6, m6, v6, x6, G6, H6, hx6, hR6, d1, d2, d3, d4, d5, d6, d7⟩
    -- a = actual[j]
    refine seq (fun s' => j < ys.length ∧ ∃ oL m v x, Pur base s s' [(M, lst mv kM), (V, lst uv kU), (L, oL)] [(le, lst vs kE), (la, lst ws kA)] ∧ NsO oL m ∧ ys[j]? = some x ∧ R x v ∧
      m (Str.ofString "expected") = some (.ref le) ∧ m (Str.ofString "actual") = some (.ref la) ∧ m (Str.ofString "missing") = some (.ref M) ∧ m (Str.ofString "unexpected") = some (.ref V) ∧ m (Str.ofString "i") = some (.int (i : Int) ti) ∧ m (Str.ofString "j") = some (.int (j : Int) tj) ∧ m (Str.ofString "e") = some v6 ∧ m (Str.ofString "a") = some v) ?_ ?_
    · refine wpAny_Assign_Name ?_
      iterate 3 walk_at "m_e"
      by_cases hlt : j < ys.length
      · obtain ⟨v, hv, hR⟩ := paired_getL hys (List.getElem?_eq_getElem hlt)
        refine lItem (by assumption) (.inr (by walk_at "m_mem")) (by omega) (by omega) (v := v) (by simpa using hv) (by rfl) ?_
        walk_at "m_sL"
        intro o' s7 G7 H7
        exact ⟨rfl, hlt, o', _, v, _, G7, H7, List.getElem?_eq_getElem hlt, hR, d1, d2, d3, d4, d5, d6, d7, rfl⟩
      · refine lOut G6 (.inr (by walk_at "m_mem")) (hand_none hh _) (by omega) (by omega) (by rfl) fun e oe s7 hx G7 => ?_
        exact ⟨.none, i, j, ms, us, I, .inr (by omega), .inl ⟨e, oe, s, rfl, rfl, .refl _ _, hx, oL6, m6, mv, uv, kM, kU, ti, tj, G7, H6, hm5, hu5, d1, d2, d3, d4, d5, d6, trivial⟩⟩
    rintro s7 ⟨hj7, oL7, m7, v7, y7, G7, H7, hy7, hR7, f1, f2, f3, f4, f5, f6, f7, f8⟩
    have fly : ∀ {x : Value} {i' j' ms' us' e s'}, Inv xs ys i' j' ms' us' → (i' = xs.length ∨ j' = ys.length) → DNew base s (frs A) (DSt (fun _ => True) base R L M V le la vs ws kE kA i' j' ms' us') x e s' → notedBy (model prog w) A' _ (cameBackBy (model prog w) A' _ J) e s' := fun I' he hN =>
      d_note F hfr hN fun s'' X => d_back F X fun s3 X' => ⟨_, _, _, _, _, I', he, .inr X'⟩
    refine seq (fun s' => ∃ i' j' ms us, xs.length - i' + (ys.length - j') < xs.length - i + (ys.length - j) ∧ Inv xs ys i' j' ms us ∧ DSt (fun _ => True) base R L M V le la vs ws kE kA i' j' ms us [] s s') ?_ (fun s' hs' => wpAny_execs_nil ⟨rfl, hs'⟩)
    refine wpAny_If ?_
    iterate 3 walk_at "m_e"
    refine O.lt hR6 hR7 ?_
    walk_at "m_e"
    by_cases hlt : x6 < y7
    · rw [if_pos (by simpa using hlt)]
      -- missing.append(e)
      refine seq (fun s' => ∃ kM, Pur base s s' [(M, lst (mv ++ [v6]) kM), (V, lst uv kU), (L, oL7)] [(le, lst vs kE), (la, lst ws kA)]) ?_ ?_
      · refine appS (base := base) (s₀ := s) (kn := [(le, lst vs kE), (la, lst ws kA)]) ?_
        walk_at "m_e"
        refine ⟨M, mv, kM, _, rfl, by assumption, by walk_at "m_kn", ?_⟩
        walk_at "m_e"
        refine lApp G7 (fun o => [(M, o), (V, lst uv kU), (L, oL7)]) (fun o => .head) (by rw [sizeLine_eq]; omega) fun k2 s8 G8 => ?_
        exact ⟨rfl, k2, G8⟩
      rintro s8 ⟨kM8, G8⟩
      have hm8 : Paired R (ms ++ [x6]) (mv ++ [v6]) := paired_app hm5 (.cons hR6 .nil)
      have I8 := I.lt SX SY hx6 hy7 hlt
      refine seq (fun s' => ∃ oL m t, Pur base s s' [(M, lst (mv ++ [v6]) kM8), (V, lst uv kU), (L, oL)] [(le, lst vs kE), (la, lst ws kA)] ∧ NsO oL m ∧
        m (Str.ofString "expected") = some (.ref le) ∧ m (Str.ofString "actual") = some (.ref la) ∧ m (Str.ofString "missing") = some (.ref M) ∧ m (Str.ofString "unexpected") = some (.ref V) ∧ m (Str.ofString "i") = some (.int ((i + 1 : Nat) : Int) t) ∧ m (Str.ofString "j") = some (.int (j : Int) tj) ∧ m (Str.ofString "e") = some v6 ∧ m (Str.ofString "a") = some v7) ?_ ?_
      · refine wpAny_AugAssign_Name ?_
        refine ldLoc G8 (.inl (by walk_at "m_mem")) H7 f5 rfl rfl ?_
        walk_at "m_e"
        refine aAdd (by assumption) fun t9 s9 G9 => ?_
        walk_at "m_sL"
        intro o' s10 G10 H10
        exact ⟨rfl, o', _, _, G10, H10, f1, f2, f3, f4, rfl, f6, f7, f8⟩
      rintro s9 ⟨oL9, m9, t9, G9, H9, g1, g2, g3, g4, g5, g6, g7, g8⟩
      refine seq (fun s' => s' = s9) ?_ ?_
      · refine d_while (base := base) (s₂ := s) (zs := xs) (x := .none) (idx := i + 1) O G9 (.tail _ (.tail _ (.head _))) H9 rfl rfl rfl rfl (by decide) (by decide) (by decide) g1 g5 g7 hR6 (by walk_at "m_mem") hxs (by omega) hi6 ?_ (hand_none hh _) (fun _ => ⟨rfl, rfl⟩) fun he e oe s10 hx G10 => ?_
        · intro z hz e
          have := drop_lt SX hx6 z (by rw [drop_at hz]; exact List.mem_cons_self ..)
          omega
        · exact fly I8 (.inl he) ⟨e, oe, s, rfl, rfl, .refl _ _, hx, oL9, m9, _, uv, kM8, kU, t9, tj, G10, H9, hm8, hu5, g1, g2, g3, g4, g5, g6, trivial⟩
      · rintro s10 rfl
        exact wpAny_execs_nil ⟨rfl, i + 1, j, _, us, by omega, I8, oL9, m9, _, uv, kM8, kU, t9, tj, G9, H9, hm8, hu5, g1, g2, g3, g4, g5, g6, trivial⟩
    rw [if_neg (by simpa using hlt)]
    refine seq (fun s' => ∃ i' j' ms us, xs.length - i' + (ys.length - j') < xs.length - i + (ys.length - j) ∧ Inv xs ys i' j' ms us ∧ DSt (fun _ => True) base R L M V le la vs ws kE kA i' j' ms us [] s s') ?_ (fun s' hs' => wpAny_execs_nil ⟨rfl, hs'⟩)
    refine wpAny_If ?_
    iterate 3 walk_at "m_e"
    refine O.gt hR6 hR7 ?_
    walk_at "m_e"
    by_cases hgt : y7 < x6
    · rw [if_pos (by simpa using hgt)]
      refine seq (fun s' => ∃ kU, Pur base s s' [(M, lst mv kM), (V, lst (uv ++ [v7]) kU), (L, oL7)] [(le, lst vs kE), (la, lst ws kA)]) ?_ ?_
      · refine appS (base := base) (s₀ := s) (kn := [(le, lst vs kE), (la, lst ws kA)]) ?_
        walk_at "m_e"
        refine ⟨V, uv, kU, _, rfl, by assumption, by walk_at "m_kn", ?_⟩
        walk_at "m_e"
        refine lApp G7 (fun o => [(M, lst mv kM), (V, o), (L, oL7)]) (fun o => .tail .head) (by rw [sizeLine_eq]; omega) fun k2 s8 G8 => ?_
        exact ⟨rfl, k2, G8⟩
      rintro s8 ⟨kU8, G8⟩
      have hu8 : Paired R (us ++ [y7]) (uv ++ [v7]) := paired_app hu5 (.cons hR7 .nil)
      have I8 := I.gt SX SY hx6 hy7 hgt
      refine seq (fun s' => ∃ oL m t, Pur base s s' [(M, lst mv kM), (V, lst (uv ++ [v7]) kU8), (L, oL)] [(le, lst vs kE), (la, lst ws kA)] ∧ NsO oL m ∧
        m (Str.ofString "expected") = some (.ref le) ∧ m (Str.ofString "actual") = some (.ref la) ∧ m (Str.ofString "missing") = some (.ref M) ∧ m (Str.ofString "unexpected") = some (.ref V) ∧ m (Str.ofString "i") = some (.int (i : Int) ti) ∧ m (Str.ofString "j") = some (.int ((j + 1 : Nat) : Int) t) ∧ m (Str.ofString "e") = some v6 ∧ m (Str.ofString "a") = some v7) ?_ ?_
      · refine wpAny_AugAssign_Name ?_
        refine ldLoc G8 (.inl (by walk_at "m_mem")) H7 f6 rfl rfl ?_
        walk_at "m_e"
        refine aAdd (by assumption) fun t9 s9 G9 => ?_
        walk_at "m_sL"
        intro o' s10 G10 H10
        exact ⟨rfl, o', _, _, G10, H10, f1, f2, f3, f4, f5, rfl, f7, f8⟩
      rintro s9 ⟨oL9, m9, t9, G9, H9, g1, g2, g3, g4, g5, g6, g7, g8⟩
      refine seq (fun s' => s' = s9) ?_ ?_
      · refine d_while (base := base) (s₂ := s) (zs := ys) (x := .none) (idx := j + 1) O G9 (.tail _ (.tail _ (.head _))) H9 rfl rfl rfl rfl (by decide) (by decide) (by decide) g2 g6 g8 hR7 (by walk_at "m_mem") hys (by omega) hj7 ?_ (hand_none hh _) (fun _ => ⟨rfl, rfl⟩) fun he e oe s10 hx G10 => ?_
        · intro z hz e
          have := drop_lt SY hy7 z (by rw [drop_at hz]; exact List.mem_cons_self ..)
          omega
        · exact fly I8 (.inr he) ⟨e, oe, s, rfl, rfl, .refl _ _, hx, oL9, m9, mv, _, kM, kU8, ti, t9, G10, H9, hm5, hu8, g1, g2, g3, g4, g5, g6, trivial⟩
      · rintro s10 rfl
        exact wpAny_execs_nil ⟨rfl, i, j + 1, ms, _, by omega, I8, oL9, m9, mv, _, kM, kU8, ti, t9, G9, H9, hm5, hu8, g1, g2, g3, g4, g5, g6, trivial⟩
    rw [if_neg (by simpa using hgt)]
    obtain rfl : x6 = y7 := by omega
    have I8 := I.eq SX SY hx6 hy7
    -- i += 1
    refine seq (fun s' => ∃ oL m t, Pur base s s' [(M, lst mv kM), (V, lst uv kU), (L, oL)] [(le, lst vs kE), (la, lst ws kA)] ∧ NsO oL m ∧
      m (Str.ofString "expected") = some (.ref le) ∧ m (Str.ofString "actual") = some (.ref la) ∧ m (Str.ofString "missing") = some (.ref M) ∧ m (Str.ofString "unexpected") = some (.ref V) ∧ m (Str.ofString "i") = some (.int ((i + 1 : Nat) : Int) t) ∧ m (Str.ofString "j") = some (.int (j : Int) tj) ∧ m (Str.ofString "e") = some v6 ∧ m (Str.ofString "a") = some v7) ?_ ?_
    · refine wpAny_AugAssign_Name ?_
      refine ldLoc G7 (.inl (by walk_at "m_mem")) H7 f5 rfl rfl ?_
      walk_at "m_e"
      refine aAdd (by assumption) fun t9 s9 G9 => ?_
      walk_at "m_sL"
      intro o' s10 G10 H10
      exact ⟨rfl, o', _, _, G10, H10, f1, f2, f3, f4, rfl, f6, f7, f8⟩
    rintro s9 ⟨oL9, m9, t9, G9, H9, g1, g2, g3, g4, g5, g6, g7, g8⟩
    have hneY : ∀ z, ys[j + 1]? = some z → z ≠ x6 := by
      intro z hz e
      have := drop_lt SY hy7 z (by rw [drop_at hz]; exact List.mem_cons_self ..)
      omega
    refine seq (fun s' => ∃ i' j' ms us, xs.length - i' + (ys.length - j') < xs.length - i + (ys.length - j) ∧ Inv xs ys i' j' ms us ∧ DSt (fun _ => True) base R L M V le la vs ws kE kA i' j' ms us [] s s') ?_ (fun s' hs' => wpAny_execs_nil ⟨rfl, hs'⟩)
    refine wpAny_Try_finally ?_
    refine seq (fun s' => s' = s9) ?_ ?_
    · refine d_while (base := base) (s₂ := s) (zs := xs) (x := .none) (idx := i + 1) O G9 (.tail _ (.tail _ (.head _))) H9 rfl rfl rfl rfl (by decide) (by decide) (by decide) g1 g5 g7 hR6 (by walk_at "m_mem") hxs (by omega) hi6 ?_ (hand_none hh _) (fun _ => ⟨rfl, rfl⟩) fun he e oe s10 hx G10 => ?_
      · intro z hz e
        have := drop_lt SX hx6 z (by rw [drop_at hz]; exact List.mem_cons_self ..)
        omega
      · -- nothing is left of expected
        refine d_note (P := fun m => m (Str.ofString "a") = some v7) (R := R) (M := M) (U := V) (i := i + 1) (j := j) (ms := ms) (us := us) (x := .none) F hfr ⟨e, oe, s, rfl, rfl, .refl _ _, hx, oL9, m9, mv, uv, kM, kU, t9, tj, G10, H9, hm5, hu5, g1, g2, g3, g4, g5, g6, g8⟩ fun s11 X11 => ?_
        refine d_back F X11 fun s12 X12 => ?_
        refine d_on F X12 ⟨ref_ne_byPass _, d_on F X12 (d_ground X12 fun s13 X13 => ?_)⟩
        obtain ⟨ea, oe', T, oT, s₂, e13, e2, y, hT, oL13, m13, mv13, uv13, kM13, kU13, ti13, tj13, G13, H13, hm13, hu13, k1, k2, k3, k4, k5, k6, k7⟩ := X13
        cases e13
        obtain ⟨vs1, hd1, _, hctx⟩ := hT.data
        -- j += 1
        refine seq (fun s' => ∃ oL m t, Pur base s₂ s' [(T, oT), (e, oe'), (M, lst mv13 kM13), (V, lst uv13 kU13), (L, oL)] [(le, lst vs kE), (la, lst ws kA)] ∧ NsO oL m ∧
          m (Str.ofString "expected") = some (.ref le) ∧ m (Str.ofString "actual") = some (.ref la) ∧ m (Str.ofString "missing") = some (.ref M) ∧ m (Str.ofString "unexpected") = some (.ref V) ∧ m (Str.ofString "i") = some (.int ((i + 1 : Nat) : Int) ti13) ∧ m (Str.ofString "j") = some (.int ((j + 1 : Nat) : Int) t) ∧ m (Str.ofString "a") = some v7) ?_ ?_
        · refine wpAny_AugAssign_Name ?_
          refine ldLoc G13 (.inl (by walk_at "m_mem")) H13 k6 rfl rfl ?_
          walk_at "m_e"
          refine aAdd (by assumption) fun t14 s14 G14 => ?_
          walk_at "m_sL"
          intro o' s15 G15 H15
          exact ⟨rfl, o', _, _, G15, H15, k1, k2, k3, k4, k5, rfl, k7⟩
        rintro s14 ⟨oL14, m14, t14, G14, H14, l1, l2, l3, l4, l5, l6, l7⟩
        refine seq (fun s' => s' = s14) ?_ ?_
        · refine d_while (base := base) (s₂ := s₂) (zs := ys) (x := .ref e) (idx := j + 1) O G14 (.tail _ (.tail _ (.tail _ (.tail _ (.head _))))) H14 rfl rfl rfl rfl (by decide) (by decide) (by decide) l2 l6 l7 hR7 (by walk_at "m_mem") hys (by omega) hj7 hneY (.inr ⟨e, oe', vs1, rfl, .tail _ (.head _), hd1, hctx, rfl⟩) (fun _ => ⟨rfl, rfl⟩) fun he2 e2' oe2 s15 hx2 G15 => ?_
          have G16 : Pur base s₂ s15 [(e2', oe2), (M, lst mv13 kM13), (V, lst uv13 kU13), (L, oL14)] [(le, lst vs kE), (la, lst ws kA)] := G15.sub (by walk_at "m_sub") fun p hp => hp
          refine d_note (P := fun _ => True) (R := R) (M := M) (U := V) (i := i + 1) (j := j + 1) (ms := ms) (us := us) F hfr ⟨e2', oe2, s₂, rfl, e2, y, hx2, oL14, m14, mv13, uv13, kM13, kU13, ti13, t14, G16, H14, hm13, hu13, l1, l2, l3, l4, l5, l6, trivial⟩ fun s17 X17 => ?_
          refine d_back F X17 fun s18 X18 => ?_
          refine d_on F X18 ?_
          exact d_back F X18 fun s19 X19 => ⟨_, _, _, _, _, I8, .inl he, .inr X19⟩
        · rintro s15 rfl
          refine wpAny_execs_nil ?_
          refine d_pass (P := fun _ => True) (R := R) (M := M) (U := V) (i := i + 1) (j := j + 1) (ms := ms) (us := us) (x := .none) (fl := .none) F ⟨e, oe', T, oT, s₂, rfl, e2, y, hT, oL14, m14, mv13, uv13, kM13, kU13, ti13, t14, G14, H14, hm13, hu13, l1, l2, l3, l4, l5, l6, trivial⟩ fun s17 X17 => ?_
          exact ⟨_, _, _, _, _, I8, .inl he, .inr X17⟩
    · rintro s10 rfl
      refine wpAny_execs_nil (wpAny_execs_nil ?_)
      refine seq (fun s' => ∃ oL m t, Pur base s s' [(M, lst mv kM), (V, lst uv kU), (L, oL)] [(le, lst vs kE), (la, lst ws kA)] ∧ NsO oL m ∧
        m (Str.ofString "expected") = some (.ref le) ∧ m (Str.ofString "actual") = some (.ref la) ∧ m (Str.ofString "missing") = some (.ref M) ∧ m (Str.ofString "unexpected") = some (.ref V) ∧ m (Str.ofString "i") = some (.int ((i + 1 : Nat) : Int) t9) ∧ m (Str.ofString "j") = some (.int ((j + 1 : Nat) : Int) t) ∧ m (Str.ofString "a") = some v7) ?_ ?_
      · refine wpAny_AugAssign_Name ?_
        refine ldLoc G9 (.inl (by walk_at "m_mem")) H9 g6 rfl rfl ?_
        walk_at "m_e"
        refine aAdd (by assumption) fun t14 s14 G14 => ?_
        walk_at "m_sL"
        intro o' s15 G15 H15
        exact ⟨rfl, o', _, _, G15, H15, g1, g2, g3, g4, g5, rfl, g8⟩
      rintro s14 ⟨oL14, m14, t14, G14, H14, l1, l2, l3, l4, l5, l6, l7⟩
      refine seq (fun s' => s' = s14) ?_ ?_
      · refine d_while (base := base) (s₂ := s) (zs := ys) (x := .none) (idx := j + 1) O G14 (.tail _ (.tail _ (.head _))) H14 rfl rfl rfl rfl (by decide) (by decide) (by decide) l2 l6 l7 hR7 (by walk_at "m_mem") hys (by omega) hj7 hneY (hand_none hh _) (fun _ => ⟨rfl, rfl⟩) fun he2 e2' oe2 s15 hx2 G15 => ?_
        refine d_note (P := fun _ => True) (R := R) (M := M) (U := V) (i := i + 1) (j := j + 1) (ms := ms) (us := us) F hfr ⟨e2', oe2, s, rfl, rfl, .refl _ _, hx2, oL14, m14, mv, uv, kM, kU, t9, t14, G15, H14, hm5, hu5, l1, l2, l3, l4, l5, l6, trivial⟩ fun s17 X17 => ?_
        refine d_back F X17 fun s18 X18 => ?_
        refine d_on F X18 ?_
        exact d_back F X18 fun s19 X19 => ⟨_, _, _, _, _, I8, .inr he2, .inr X19⟩
      · rintro s15 rfl
        exact wpAny_execs_nil ⟨rfl, i + 1, j + 1, ms, us, by omega, I8, oL14, m14, mv, uv, kM, kU, t9, t14, G14, H14, hm5, hu5, l1, l2, l3, l4, l5, l6, trivial⟩
  · rintro f s6 ⟨rfl, i', j', ms', us', hlt, I', St'⟩
    exact wpAny_execs_nil (wpAny_execs_nil ⟨_, hlt, i', j', ms', us', rfl, I', St'⟩)
  · rintro e s6 ⟨x, i', j', ms', us', I', he, hX⟩
    refine d_either F hfr hX fun s7 X7 => d_ground X7 fun s8 X8 => ?_
    obtain ⟨ea, oe, T, oT, s₂, rfl, e2, y, hT, oL8, m8, mv8, uv8, kM8, kU8, ti8, tj8, G8, H8, hm8, hu8, k1, k2, k3, k4, k5, k6, -⟩ := X8
    refine wpAny_handleBy_builtin (X := "IndexError") (T := "IndexError") (b := true) (by rw [isSubtype_type]; kernel_rfl) (by rw [isSubtype_type]; kernel_rfl) (by rw [isSubtype_type]; kernel_rfl) ?_
    refine nBlt G8 U rfl rfl rfl rfl rfl (v := .type "IndexError") (by kernel_rfl) (by decide) (by decide) ?_
    refine ⟨rfl, ⟨oe, G8.get (.inl (.tail _ (.head _))), hT.cls⟩, ?_⟩
    rw [if_pos rfl]
    refine grounded G8 (.tail _ (.head _)) (fun o => [(T, o), (ea, oe), (M, lst mv8 kM8), (V, lst uv8 kU8), (L, oL8)]) (fun o => .head) hT fun oT9 s9 hT9 G9 => ?_
    have G10 : Pur base s₂ s9 [(M, lst mv8 kM8), (V, lst uv8 kU8), (L, oL8)] [(le, lst vs kE), (la, lst ws kA)] := G9.sub (by walk_at "m_sub") fun p hp => hp
    have hmsl : ms'.length ≤ 100 := by rw [I'.em]; exact Nat.le_trans (List.length_filter_le _ _) (by rw [List.length_take]; omega)
    have husl : us'.length ≤ 100 := by rw [I'.eu]; exact Nat.le_trans (List.length_filter_le _ _) (by rw [List.length_take]; omega)
    have hmvl : mv8.length = ms'.length := paired_len hm8
    have huvl : uv8.length = us'.length := paired_len hu8
    -- missing.extend(expected[i:])
    refine seq (fun s' => ∃ k, Pur base s₂ s' [(M, lst (mv8 ++ vs.drop i') k), (V, lst uv8 kU8), (L, oL8)] [(le, lst vs kE), (la, lst ws kA)]) ?_ ?_
    · refine extS (base := base) (s₀ := s₂) (kn := [(le, lst vs kE), (la, lst ws kA)]) ?_
      walk_at "m_e"
      refine ⟨M, mv8, kM8, _, rfl, G10, by walk_at "m_kn", ?_⟩
      refine' lSlice (base := base) (s₀ := s₂) ?_ (by intro _ _; rfl)
      walk_at "m_e"
      refine evalPart_some ?_
      walk_at "m_e"
      refine evalPart_none ?_
      refine ⟨_, vs, kE, some (i' : Int), none, _, rfl, G10, by walk_at "m_kn", by rw [sizeLine_eq]; omega, .int _ _, .none, fun D11 s11 G11 => ?_⟩
      rw [slice_from'] at G11
      refine lExt G11 (fun o => [(D11, lst (vs.drop i') 0), (M, o), (V, lst uv8 kU8), (L, oL8)]) (fun o => .tail .head) (.inl (.head _)) (by rw [sizeLine_eq, List.length_drop]; omega) fun k12 s12 G12 => ?_
      exact ⟨rfl, k12, G12.sub (by walk_at "m_sub") fun p hp => hp⟩
    rintro s11 ⟨k11, G11⟩
    refine seq (fun s' => ∃ k, Pur base s₂ s' [(M, lst (mv8 ++ vs.drop i') k11), (V, lst (uv8 ++ ws.drop j') k), (L, oL8)] [(le, lst vs kE), (la, lst ws kA)]) ?_ ?_
    · refine extS (base := base) (s₀ := s₂) (kn := [(le, lst vs kE), (la, lst ws kA)]) ?_
      walk_at "m_e"
      refine ⟨V, uv8, kU8, _, rfl, G11, by walk_at "m_kn", ?_⟩
      refine' lSlice (base := base) (s₀ := s₂) ?_ (by intro _ _; rfl)
      walk_at "m_e"
      refine evalPart_some ?_
      walk_at "m_e"
      refine evalPart_none ?_
      refine ⟨_, ws, kA, some (j' : Int), none, _, rfl, G11, by walk_at "m_kn", by rw [sizeLine_eq]; omega, .int _ _, .none, fun D12 s12 G12 => ?_⟩
      rw [slice_from'] at G12
      refine lExt G12 (fun o => [(D12, lst (ws.drop j') 0), (M, lst (mv8 ++ vs.drop i') k11), (V, o), (L, oL8)]) (fun o => .tail (.tail .head)) (.inl (.head _)) (by rw [sizeLine_eq, List.length_drop]; omega) fun k13 s13 G13 => ?_
      exact ⟨rfl, k13, G13.sub (by walk_at "m_sub") fun p hp => hp⟩
    rintro s12 ⟨k12, G12⟩
    refine wpAny_execs_cons (wpAny_Break ?_)
    -- return (missing, unexpected)
    refine seqRet (Tuple_ ?_)
    iterate 4 walk_at "m_e"
    refine spliced_none ?_
    refine tNew G12 (by rw [sizeLine_eq]; simp) fun T13 s13 G13 => ?_
    obtain ⟨z1, z2⟩ := I'.done he
    refine h s₂ T13 M V k11 k12 _ _ s13 e2 y ?_ ?_ (G13.sub (by walk_at "m_sub") fun p hp => nomatch hp)
    · rw [← z1]; exact paired_app hm8 (paired_drop hxs _)
    · rw [← z2]; exact paired_app hu8 (paired_drop hys _)
end

theorem Rep.app {d : Addr} {o o' : Obj} {l l' : List (Addr × Obj)} (R : Rep d o o' l l') : ∀ {q : List (Addr × Obj)}, Rep d o o' (q ++ l) (q ++ l')
  | [] => R
  | _ :: _ => .tail (R.app)
abbrev rit (n i : Nat) : Obj := { cls := .type "range_iterator", data := .fields #[.int (i : Int) 0, .int ((n : Int) - i) 0, .int 1 0] }
section
variable {prog : Program} {w : World} {A : Around} {E : Value → Shared → Prop} {base : Heap} {s₀ s : Shared} {nw kn : List (Addr × Obj)} {env : Env} {l r I : Addr} {vs : List Value} {k n : Nat}
/-- an iterator of one's own, and how it goes -/
structure Itr (prog : Program) (w : World) (A : Around) (base : Heap) (kn : List (Addr × Obj)) (I : Addr) (n : Nat) (V : Nat → Value → Prop) (OI : Nat → Obj → Prop) : Prop where
  item : ∀ {i : Nat} {s₀ s : Shared} {nw : List (Addr × Obj)} {oI : Obj} {E : Value → Shared → Prop} {Q : Option Value → Shared → Prop} (g : Obj → List (Addr × Obj)), i < n → OI i oI → Pur base s₀ s nw kn → (∀ o', Rep I oI o' nw (g o')) →
    (∀ v o' s', V i v → OI (i + 1) o' → Pur base s₀ s' (g o') kn → Q (some v) s') → wpAny (model prog w) A (pyNext (.ref I)) Q E s
  done : ∀ {s₀ s : Shared} {nw nw' : List (Addr × Obj)} {oI : Obj} {E : Value → Shared → Prop} {Q : Option Value → Shared → Prop}, OI n oI → Pur base s₀ s nw kn → Del I oI nw nw' → (∀ s', Pur base s₀ s' nw' kn → Q none s') → wpAny (model prog w) A (pyNext (.ref I)) Q E s
  self : ∀ {i : Nat} {s₀ s : Shared} {nw : List (Addr × Obj)} {oI : Obj} {E : Value → Shared → Prop} {Q : Value → Shared → Prop}, OI i oI → Pur base s₀ s nw kn → (I, oI) ∈ nw → Q (.ref I) s → wpAny (model prog w) A (pyIter (.ref I)) Q E s
theorem itrL (hh : A.handled = none) (hm : (l, lst vs k) ∈ kn) : Itr prog w A base kn I vs.length (fun i v => vs[i]? = some v) (fun i o => LI o l i) where
  item := fun g hi hI G R h => nItem G g hI R (.inr hm) (List.getElem?_eq_getElem hi) fun o' s' hI' G' => h _ o' s' (List.getElem?_eq_getElem hi) hI' G'
  done := fun hI G R h => nEnd G hh hI R (.inr hm) (Nat.le_refl _) h
  self := fun hI G hm h => wpAny_pyIter_listiter ⟨_, G.get (.inl hm), hI.cls, hI.data⟩ h
theorem itrR (hh : A.handled = none) : Itr prog w A base kn I n (fun i v => ∃ t, v = .int (i : Int) t) (fun i o => o = rit n i) where
  item := fun {i _ _ _ _ _ _} g hi hI G R h => by
    subst hI
    refine (Walks.range (prog := prog) (w := w) hh I 0 1 n).item i _ _ _ hi ?_ fun v h' tk hv st' hk => ?_
    · show IsRangeIter _ _ _ _ _
      rw [Int.zero_add, Int.mul_one]
      exact G.get (.inl (R (rit n i)).mem)
    · have st' : IsRangeIter h' I (0 + ((i + 1 : Nat) : Int) * 1) ((n : Int) - ((i + 1 : Nat) : Int)) 1 := st'
      rw [Int.zero_add, Int.mul_one] at st'
      refine h v (rit n (i + 1)) _ ?_ rfl (G.change (R _) ⟨_, _, rfl⟩ (fun b z hb e => hk b z (fun q => hb (List.mem_singleton.mp q)) e) st')
      obtain ⟨t, rfl⟩ := hv
      exact ⟨t, by rw [Int.zero_add, Int.mul_one]⟩
  done := fun hI G R h => by
    subst hI
    refine (Walks.range (prog := prog) (w := w) hh I 0 1 n).done _ _ _ ?_ fun h' tk hk => ?_
    · show IsRangeIter _ _ _ _ _
      rw [Int.zero_add, Int.mul_one]
      exact G.get (.inl R.mem)
    · exact h _ (G.forget R ⟨_, _, rfl⟩ fun b z hb e => hk b z (fun q => hb (List.mem_singleton.mp q)) e)
  self := fun hI G hm h => by
    subst hI
    exact wpAny_pyIter_rangeiter (G.get (.inl hm)) h
theorem iterL {Q : Value → Shared → Prop} (G : Pur base s₀ s nw kn) (hm : (l, lst vs k) ∈ nw ∨ (l, lst vs k) ∈ kn) (h : ∀ I oI s', LI oI l 0 → Pur base s₀ s' ((I, oI) :: nw) kn → Q (.ref I) s') : wpAny (model prog w) A (pyIter (.ref l)) Q E s :=
  wpAny_pyIter_list (G.list hm) (h _ _ _ ⟨rfl, rfl⟩ (G.push rfl))
theorem iterR {t u v : Tok} {Q : Value → Shared → Prop} (G : Pur base s₀ s nw kn) (hm : (r, rng n t u v) ∈ nw ∨ (r, rng n t u v) ∈ kn) (hz : n ≤ sizeLine) (h : ∀ I s', Pur base s₀ s' ((I, rit n 0) :: nw) kn → Q (.ref I) s') : wpAny (model prog w) A (pyIter (.ref r)) Q E s := by
  have hsz : Builtin.Range.rangeSize 0 (n : Int) 1 = (n : Int) - ((0 : Nat) : Int) := by rw [rangeSize_one]; split <;> omega
  have hsm : Builtin.Range.small 0 (n : Int) 1 = true := small_one (by omega) (by omega) (by omega) (by rw [sizeLine_eq] at hz; omega)
  refine wpAny_pyIter_range (a := 0) (b := n) (c := 1) (G.get hm) hsm ?_
  rw [hsz]
  exact h _ _ (G.push rfl)

/-- what a comprehension shows of its elements: i, value, what was made for it -/
def EltOk (prog : Program) (w : World) (A : Around) (base : Heap) (kn : List (Addr × Obj)) (env : Env) (scope : Scope) (cl : List (Str × Addr)) (x : Str) (elt : Expr) (n : Nat) (V : Nat → Value → Prop) (F : Nat → Value → List (Addr × Obj) → Prop) (h₁ : Heap) : Prop :=
  ∀ C oC i v s₃ m₃ E', i < n → V i v → NsO oC m₃ → m₃ x = some v → Pur base s₃ s₃ [] ((C, oC) :: kn) → h₁.StaysIn s₃.heap → wpAny (model prog w) A (eval elt (compEnvC scope cl C env)) (fun y s₄ => ∃ ob, F i y ob ∧ Pur base s₃ s₄ ob []) E' s₃
theorem rep3 {C D : Addr} {oC o o' : Obj} {r : List (Addr × Obj)} : Rep D o o' ((C, oC) :: (D, o) :: r) ((C, oC) :: (D, o') :: r) := .tail .head
theorem compCore {elt iter : Expr} {x : Str} {px : Pos} {scope : Scope} {cl : List (Str × Addr)} {pos : Pos} {s₁ s₂ : Shared} {V : Nat → Value → Prop} {OI : Nat → Obj → Prop} {oI : Obj} {RR : Value → Addr → Result → Shared → Prop} (F : Nat → Value → List (Addr × Obj) → Prop)
    (hkind : scope.kind = .function) (hcf : ∀ n, cellsFrom n scope.names cl = cl) (hpc : ∀ h, pushCells h scope.names = h) (hx : (relabel scope env).names.lookup x = some .local)
    (T : Itr prog w A base kn I n V OI) (h0 : OI 0 oI) (G : Pur base s₁ s₂ [(I, oI)] kn) (hz : n ≤ sizeLine) (hE : EltOk prog w A base kn env scope cl x elt n V F s₁.heap)
    (fin : ∀ C D oC mC k (ys : List Value) (obs : List (List (Addr × Obj))) s', ys.length = n → obs.length = n → (∀ i y ob, ys[i]? = some y → obs[i]? = some ob → F i y ob) → NsO oC mC → Pur base s₁ s' ((C, oC) :: (D, lst ys k) :: obs.flatten) kn → RR (.ref D) C (.ok .next) s') :
    wpAny (model prog w) A (newList []) (fun acc s₃ => wpAny (model prog w) A (newFunctionEnv scope env.globals cl [] env.qual none .none (some env)) (fun cenv s₄ =>
      codeAny (model prog w) A (.compStart (.ListComp elt [⟨.Name x px, iter, [], 0⟩] scope pos) 0 (.ref I) acc { cenv with scope := relabel scope env }) (RR acc cenv.locals) s₄) E s₃) E s₂ := by
  refine wpAny_newObj_type ?_
  have G2 := Pur.push (o := lst [] 0) G rfl
  simp only [newFunctionEnv, Option.isSome_some, if_true]
  refine wpAny_bind (wpAny_alloc ?_)
  have G3 := Pur.push (o := { cls := .type "dict", data := .dict #[] }) G2 rfl
  refine wpAny_bind (wpAny_layCells _ (fun name kind cells => by cases hkc : kind == NameKind.cell <;> simp) _ _ _ _ ?_)
  rw [hcf, hpc]
  refine wpAny_bind ?_
  rw [List.forIn_nil]
  refine wpAny_pure (wpAny_pure ?_)
  clear G2
  dsimp only at G3 ⊢
  have HC : NsO ({ cls := .type "dict", data := .dict #[] } : Obj) (fun _ => none) := by
    obtain ⟨o, es, ep, ho, hd, r⟩ := Heap.Ns.new s₁.heap (.type "dict")
    rw [Heap.get?_push_size _ rfl] at ho
    cases ho
    exact ⟨es, ep, hd, r⟩
  generalize ({ cls := .type "dict", data := .dict #[] } : Obj) = oC at G3 HC ⊢
  generalize s₂.heap.objs.size = D at G3 ⊢
  generalize (s₂.heap.push (lst [] 0)).objs.size = C at G3 ⊢
  generalize ((s₂.heap.push (lst [] 0)).push oC) = H at G3 ⊢
  generalize hs4 : ({ s₂ with heap := H } : Shared) = s₄ at G3
  clear hs4 H
  have loop : codeAny (model prog w) A (.compLoop (.ListComp elt [⟨.Name x px, iter, [], 0⟩] scope pos) 0 (.ref I) (.ref D) (compEnvC scope cl C env)) (RR (.ref D) C) s₄ := by
    refine codeAny_compLoop_tests (fun m s' => ∃ i ys obs k' oI oC mC, m = n + 1 - i ∧ i ≤ n ∧ OI i oI ∧ ys.length = i ∧ obs.length = i ∧ (∀ i y ob, ys[i]? = some y → obs[i]? = some ob → F i y ob) ∧ NsO oC mC ∧ Pur base s₁ s' ((C, oC) :: (D, lst ys k') :: (I, oI) :: obs.flatten) kn) ?_ (n + 1) ⟨0, [], [], 0, oI, oC, _, rfl, Nat.zero_le _, h0, rfl, rfl, fun i y ob h => by simp at h, HC, G3⟩
    rintro m s' ⟨i, ys, obs, k', oI, oC, mC, rfl, hi, hOI, hy, hob, hF, HC, G'⟩
    by_cases hlt : i < n
    · refine T.item (fun o' => (C, oC) :: (D, lst ys k') :: (I, o') :: obs.flatten) hlt hOI G' (fun o' => .tail (.tail .head)) fun v oI' s'' hV hOI' G'' => ?_
      refine wpAny_assign_Name (sLoc (oL := oC) (m := mC) (L := C) G'' rfl (.head _) HC hkind hx (fun o' => (C, o') :: (D, lst ys k') :: (I, oI') :: obs.flatten) (fun o' => .head) fun oC' s3 G3 HC' => ?_)
      refine wpAny_tests_nil ?_
      simp only [if_true]
      refine wpAny_mono (hE C oC' i v s3 _ _ hlt hV HC' (by simp) (G3.rebase fun p hp => ?_) G3.grow) (fun y s4 h4 => ?_) fun _ _ e => e
      · rcases List.mem_cons.mp hp with rfl | hp
        · exact .inl (.head _)
        · exact .inr hp
      · obtain ⟨ob, hFy, G4⟩ := h4
        have G5 := G3.trans G4
        have G6 : Pur base s₁ s4 ((C, oC') :: (D, lst ys k') :: (I, oI') :: (obs ++ [ob]).flatten) kn := G5.perm (by
          rw [List.flatten_append, List.flatten_cons, List.flatten_nil, List.append_nil]
          show (([(C, oC'), (D, lst ys k'), (I, oI')] ++ obs.flatten) ++ ob).Perm (ob ++ ([(C, oC'), (D, lst ys k'), (I, oI')] ++ obs.flatten))
          exact List.perm_append_comm)
        refine lApp G6 (fun o' => (C, oC') :: (D, o') :: (I, oI') :: (obs ++ [ob]).flatten) (fun o' => rep3) (by omega) fun k2 s5 G7 => ?_
        refine ⟨n + 1 - (i + 1), by omega, i + 1, ys ++ [y], obs ++ [ob], k2, oI', oC', _, rfl, hlt, hOI', by simp [hy], by simp [hob], fun j z zb hz hzb => ?_, HC', G7⟩
        rcases Nat.lt_trichotomy j i with hj | hj | hj
        · rw [List.getElem?_append_left (by omega)] at hz hzb
          exact hF j z zb hz hzb
        · subst hj
          rw [← hy, List.getElem?_concat_length] at hz
          rw [← hob, List.getElem?_concat_length] at hzb
          cases hz; cases hzb; exact hFy
        · rw [List.getElem?_eq_none (by simp; omega)] at hz; cases hz
    · obtain rfl : i = n := by omega
      refine T.done hOI G' (.tail (.tail .head)) fun s2 G2 => ?_
      exact fin C D oC mC k' ys obs s2 hy hob hF HC G2
  exact codeAny_compStart_list loop (T.self h0 G3 (.tail _ (.tail _ (.head _))) loop)

theorem compG {elt iter : Expr} {x : Str} {px : Pos} {scope : Scope} {cl : List (Str × Addr)} {pos : Pos} {Q : Value → Shared → Prop} (F : Nat → Value → List (Addr × Obj) → Prop)
    (hclos : closureFor scope env = pure cl) (hkind : scope.kind = .function) (hnames : ∀ y ∈ scope.names, y.2 = .local → scope.names.lookup y.1 = some .local)
    (hcf : ∀ n, cellsFrom n scope.names cl = cl) (hpc : ∀ h, pushCells h scope.names = h) (hx : (relabel scope env).names.lookup x = some .local) (hs : ∀ x, foldedSetIterable iter env x = pure x)
    (h : wpAny (model prog w) A (eval iter env) (fun xv s₁ => ∃ nw, Pur base s₀ s₁ nw kn ∧ wpAny (model prog w) A (pyIter xv) (fun it s₂ => ∃ I n V OI oI, it = .ref I ∧ Itr prog w A base (nw ++ kn) I n V OI ∧ OI 0 oI ∧ Pur base s₁ s₂ [(I, oI)] (nw ++ kn) ∧ n ≤ sizeLine ∧ EltOk prog w A base (nw ++ kn) env scope cl x elt n V F s₁.heap ∧
      (∀ D k (ys : List Value) (obs : List (List (Addr × Obj))) s', ys.length = n → obs.length = n → (∀ i y ob, ys[i]? = some y → obs[i]? = some ob → F i y ob) → Pur base s₀ s' ((D, lst ys k) :: (obs.flatten ++ nw)) kn → Q (.ref D) s')) E s₁) E s) :
    wpAny (model prog w) A (eval (.ListComp elt [⟨.Name x px, iter, [], 0⟩] scope pos) env) Q E s := by
  rw [eval_ListComp]
  refine wpAny_comprehension_free (use := none) rfl hs hclos hkind hnames (wpAny_mono h (fun xv s₁ h₁ => ?_) fun _ _ e => e)
  obtain ⟨nw, G, h₂⟩ := h₁
  refine wpAny_mono h₂ (fun it s₂ h₂ => ?_) fun _ _ e => e
  obtain ⟨I, n, V, OI, oI, rfl, T, h0, G2, hz, hE, fin⟩ := h₂
  refine compCore (RR := fun acc C => compPost (model prog w) A E none Q acc C) F hkind hcf hpc hx T h0 G2 hz hE fun C D oC mC k ys obs s' a b c HC G' => ?_
  refine ⟨mC, HC.ns (G'.get (.inl (.head _))), fun h' hs' => ?_⟩
  have G3 := G'.forget (s' := { s' with heap := h' }) .head ⟨_, _, rfl⟩ fun b z hb e => hs'.extBut b z hb e
  exact fin D k ys obs _ a b c (G.trans G3)
theorem compGA {elt iter : Expr} {x y : Str} {px py : Pos} {scope : Scope} {cl : List (Str × Addr)} {pos spos : Pos} {Q : Flow → Shared → Prop} {m : Str → Option Value} {L : Addr} (F : Nat → Value → List (Addr × Obj) → Prop)
    (hsw : swapsWith (.ListComp elt [⟨.Name x px, iter, [], 0⟩] scope pos) (some (.Name y py)) spos.line env = pure true)
    (hclos : closureFor scope env = pure cl) (hkind : scope.kind = .function) (hnames : ∀ y ∈ scope.names, y.2 = .local → scope.names.lookup y.1 = some .local)
    (hcf : ∀ n, cellsFrom n scope.names cl = cl) (hpc : ∀ h, pushCells h scope.names = h) (hx : (relabel scope env).names.lookup x = some .local) (hs : ∀ x, foldedSetIterable iter env x = pure x)
    (hy : env.kindOf y = some .local) (hke : env.scope.kind = .function) (hL : env.locals = L)
    (h : wpAny (model prog w) A (eval iter env) (fun xv s₁ => ∃ nw oL, ∃ g : Obj → List (Addr × Obj), Pur base s₀ s₁ nw kn ∧ NsO oL m ∧ (∀ o', Rep L oL o' nw (g o')) ∧ wpAny (model prog w) A (pyIter xv) (fun it s₂ => ∃ I n V OI oI, it = .ref I ∧ Itr prog w A base (nw ++ kn) I n V OI ∧ OI 0 oI ∧ Pur base s₁ s₂ [(I, oI)] (nw ++ kn) ∧ n ≤ sizeLine ∧ EltOk prog w A base (nw ++ kn) env scope cl x elt n V F s₁.heap ∧
      (∀ D k (ys : List Value) (obs : List (List (Addr × Obj))) o' s', ys.length = n → obs.length = n → (∀ i y ob, ys[i]? = some y → obs[i]? = some ob → F i y ob) → Pur base s₀ s' ((D, lst ys k) :: (obs.flatten ++ g o')) kn → NsO o' (fun z => if z = y then some (.ref D) else m z) → Q .next s')) E s₁) E s) :
    wpAny (model prog w) A (exec (.Assign [.Name y py] (.ListComp elt [⟨.Name x px, iter, [], 0⟩] scope pos) spos) env) Q E s := by
  rw [exec_Assign_Name_used _ _ _ _ hsw]
  refine wpAny_bind (wpAny_standAt (wpAny_bind ?_))
  show wpAny _ A (do let _ ← comprehension (.ListComp elt [⟨.Name x px, iter, [], 0⟩] scope pos) scope env _ (newList []) false (eval iter env) (some (assign (.Name y py) env))) _ _ s
  refine wpAny_bind (wpAny_mono (wpAny_comprehension_free (use := some (assign (.Name y py) env)) (Q := fun _ s' => Q .next s') rfl hs hclos hkind hnames
    (wpAny_mono h (fun xv s₁ h₁ => ?_) fun _ _ e => e)) (fun _ s' hq => wpAny_pure (wpAny_pure hq)) fun _ _ e => e)
  obtain ⟨nw, oL, g, G, H, R, h₂⟩ := h₁
  refine wpAny_mono h₂ (fun it s₂ h₂ => ?_) fun _ _ e => e
  obtain ⟨I, n, V, OI, oI, rfl, T, h0, G2, hz, hE, fin⟩ := h₂
  refine compCore (RR := fun acc C => compPost (model prog w) A E (some (assign (.Name y py) env)) (fun _ s' => Q .next s') acc C) F hkind hcf hpc hx T h0 G2 hz hE fun C D oC mC k ys obs s' a b c HC G' => ?_
  have G3 := G.trans G'
  have RL : ∀ o', Rep L oL o' ((C, oC) :: (D, lst ys k) :: obs.flatten ++ nw) ((C, oC) :: (D, lst ys k) :: (obs.flatten ++ g o')) := fun o' => .tail (.tail (Rep.app (R o')))
  refine wpAny_assign_Name (sLoc (oL := oL) (m := m) (L := L) G3 hL (RL oL).mem H hke hy (fun o' => (C, oC) :: (D, lst ys k) :: (obs.flatten ++ g o')) RL fun o' s'' G4 H4 => ?_)
  refine ⟨mC, HC.ns (G4.get (.inl (.head _))), fun h' hs' => ?_⟩
  have G5 := G4.forget (s' := { s'' with heap := h' }) .head ⟨_, _, rfl⟩ fun b z hb e => hs'.extBut b z hb e
  exact fin D k ys obs o' _ a b c G5 H4
end

section
variable {prog : Program} {w : World} {A : Around} {E : Value → Shared → Prop} {base : Heap} {s₀ s : Shared} {kn : List (Addr × Obj)} {env : Env}
theorem turn0 (elt iter iter2 t1 t2 : Expr) (scope : Scope) (pos : Pos) (it acc : Value) (env : Env) :
    compTurn (.ListComp elt [⟨t1, iter, [], 0⟩, ⟨t2, iter2, [], 0⟩] scope pos) 0 it acc env = (standAt iter.pos >>= fun _ => pyNext it >>= fun r => match r with
      | none => pure (.done .next)
      | some v => letOwnedTupleGo t1 it v >>= fun _ => assign t1 env v >>= fun _ =>
        (eval iter2 env >>= fun x => standAt iter2.pos >>= fun _ => foldedSetIterable iter2 env x >>= fun x => holding [x] (pyIter x) >>= fun it1 =>
          runOwn (.compStart (.ListComp elt [⟨t1, iter, [], 0⟩, ⟨t2, iter2, [], 0⟩] scope pos) 1 it1 acc env) env >>= fun _ => again (.compLoop (.ListComp elt [⟨t1, iter, [], 0⟩, ⟨t2, iter2, [], 0⟩] scope pos) 0 it acc env))) := by rfl
theorem turn1 (elt iter iter2 t1 t2 : Expr) (scope : Scope) (pos : Pos) (it acc : Value) (env : Env) :
    compTurn (.ListComp elt [⟨t1, iter, [], 0⟩, ⟨t2, iter2, [], 0⟩] scope pos) 1 it acc env = (standAt iter2.pos >>= fun _ => pyNext it >>= fun r => match r with
      | none => pure (.done .next)
      | some v => letOwnedTupleGo t2 it v >>= fun _ => assign t2 env v >>= fun _ =>
        (eval elt env >>= fun x => call (.builtin "list.append") [acc, x] >>= fun _ => pure ()) >>= fun _ =>
          again (.compLoop (.ListComp elt [⟨t1, iter, [], 0⟩, ⟨t2, iter2, [], 0⟩] scope pos) 1 it acc env)) := by rfl
theorem start1 {R : Result → Shared → Prop} {elt iter iter2 t1 t2 : Expr} {scope : Scope} {pos : Pos} {it acc : Value}
    (h0 : codeAny (model prog w) A (.compLoop (.ListComp elt [⟨t1, iter, [], 0⟩, ⟨t2, iter2, [], 0⟩] scope pos) 1 it acc env) R s)
    (h : wpAny (model prog w) A (pyIter it) (fun it' s' => codeAny (model prog w) A (.compLoop (.ListComp elt [⟨t1, iter, [], 0⟩, ⟨t2, iter2, [], 0⟩] scope pos) 1 it' acc env) R s')
      (notedBy (model prog w) A env fun x s' => R (.error x) s') s) :
    codeAny (model prog w) A (.compStart (.ListComp elt [⟨t1, iter, [], 0⟩, ⟨t2, iter2, [], 0⟩] scope pos) 1 it acc env) R s := by
  refine codeAny_of_tree ?_
  show wpAny _ _ ((compStart (.ListComp elt [⟨t1, iter, [], 0⟩, ⟨t2, iter2, [], 0⟩] scope pos) 1 it acc env).onRaise (fun x => do noteFrame x env; standAt theWindowsPlace)) _ _ s
  refine wpAny_notedAt ?_
  unfold compStart
  show wpAny _ _ (ask >>= _) _ _ s
  refine wpAny_bind (wpAny_askSetting (wpAny_ite ?_))
  split
  · first
      | exact wpAny_bind (wpAny_pure (wpAny_pure (And.intro rfl h0)))
      | exact wpAny_pure (And.intro rfl h0)
  · first
      | exact wpAny_bind (wpAny_rule (wpAny_bind (wpAny_standAt (wpAny_bind (wpAny_mono h (fun it' s' h' => wpAny_pure (And.intro rfl h')) fun _ _ x => x)))))
      | (refine wpAny_bind (wpAny_rule ?_); show wpAny _ _ (standAt iter2.pos >>= _) _ _ s; exact wpAny_bind (wpAny_standAt (wpAny_bind (wpAny_mono h (fun it' s' h' => wpAny_pure (And.intro rfl h')) fun _ _ x => x))))

theorem innerTwo {iter t1 iter2 : Expr} {x2 : Str} {p1 p4 : Pos} {scope : Scope} {cl : List (Str × Addr)} {pos : Pos} {R : Result → Shared → Prop} {l I J C D : Addr} {ws pre : List Value} {kw k : Nat} {oI oJ oC : Obj} {mC : Str → Option Value} (hh : A.handled = none)
    (hkind : scope.kind = .function) (hx2 : (relabel scope env).names.lookup x2 = some .local) (d2 : (x2 == ("__debug__" : Str)) = false) (hl : (l, lst ws kw) ∈ kn) (hJ : LI oJ l 0) (HC : NsO oC mC)
    (G : Pur base s₀ s [(J, oJ), (C, oC), (D, lst pre k), (I, oI)] kn) (hz : pre.length + ws.length ≤ sizeLine)
    (h : ∀ s' oC mC k', NsO oC mC → Pur base s₀ s' [(C, oC), (D, lst (pre ++ ws) k'), (I, oI)] kn → R (.ok .next) s') :
    codeAny (model prog w) A (.compStart (.ListComp (.Name x2 p1) [⟨t1, iter, [], 0⟩, ⟨.Name x2 p4, iter2, [], 0⟩] scope pos) 1 (.ref J) (.ref D) (compEnvC scope cl C env)) R s := by
  have inner : codeAny (model prog w) A (.compLoop (.ListComp (.Name x2 p1) [⟨t1, iter, [], 0⟩, ⟨.Name x2 p4, iter2, [], 0⟩] scope pos) 1 (.ref J) (.ref D) (compEnvC scope cl C env)) R s := by
    refine codeAny_loop rfl (fun m s' => ∃ j k' oJ oC mC, m = ws.length + 1 - j ∧ j ≤ ws.length ∧ LI oJ l j ∧ NsO oC mC ∧ Pur base s₀ s' [(J, oJ), (C, oC), (D, lst (pre ++ ws.take j) k'), (I, oI)] kn) (fun m s' hI' => ?_) (ws.length + 1) ⟨0, k, oJ, oC, mC, rfl, Nat.zero_le _, hJ, HC, by simpa using G⟩
    obtain ⟨j, k', oJ, oC, mC, rfl, hj, hJ, HC, G'⟩ := hI'
    show wpAny _ A ((compTurn (.ListComp (.Name x2 p1) [⟨t1, iter, [], 0⟩, ⟨.Name x2 p4, iter2, [], 0⟩] scope pos) 1 (.ref J) (.ref D) (compEnvC scope cl C env)).onRaise (fun x => do noteFrame x (compEnvC scope cl C env); theTreesLotGoes x)) _ _ s'
    refine wpAny_noted ?_
    rw [turn1]
    refine wpAny_bind (wpAny_standAt (wpAny_bind ?_))
    by_cases hlt : j < ws.length
    · refine nItem G' (fun o' => [(J, o'), (C, oC), (D, lst (pre ++ ws.take j) k'), (I, oI)]) hJ (fun o' => .head) (.inr hl) (List.getElem?_eq_getElem hlt) fun oJ' s'' hJ' G'' => ?_
      dsimp only
      refine wpAny_bind (wpAny_pure ?_)
      refine wpAny_bind (wpAny_assign_Name (sLoc (oL := oC) (m := mC) (L := C) G'' rfl (.tail _ (.head _)) HC hkind hx2 (fun o' => [(J, oJ'), (C, o'), (D, lst (pre ++ ws.take j) k'), (I, oI)]) (fun o' => .tail .head) fun oC' s3 G3 HC' => ?_))
      refine wpAny_bind (wpAny_bind (nLoc G3 (.inl (.tail _ (.head _))) HC' (v := ws[j]) (by simp) hkind hx2 d2 ?_))
      refine wpAny_bind (lApp G3 (fun o' => [(J, oJ'), (C, oC'), (D, o'), (I, oI)]) (fun o' => .tail (.tail .head)) (by simp; omega) fun k2 s5 G5 => ?_)
      refine wpAny_pure (wpAny_pure ⟨rfl, ws.length + 1 - (j + 1), by omega, j + 1, k2, oJ', oC', _, rfl, hlt, hJ', HC', ?_⟩)
      rw [List.take_add_one, List.getElem?_eq_getElem hlt, Option.toList_some, ← List.append_assoc]
      exact G5
    · obtain rfl : j = ws.length := by omega
      refine nEnd G' hh hJ .head (.inr hl) (Nat.le_refl _) fun s2 G2 => ?_
      dsimp only
      rw [List.take_length] at G2
      exact wpAny_pure (h s2 oC mC k' HC G2)
  exact start1 inner (wpAny_pyIter_listiter ⟨_, G.get (.inl (.head _)), hJ.cls, hJ.data⟩ inner)
abbrev Row : Type := Addr × List Value × Nat
theorem compTwo {iter : Expr} {x1 x2 : Str} {p1 p2 p3 p4 : Pos} {scope : Scope} {cl : List (Str × Addr)} {pos : Pos} {Q : Value → Shared → Prop} (hh : A.handled = none)
    (hclos : closureFor scope env = pure cl) (hkind : scope.kind = .function) (hnames : ∀ y ∈ scope.names, y.2 = .local → scope.names.lookup y.1 = some .local)
    (hcf : ∀ n, cellsFrom n scope.names cl = cl) (hpc : ∀ h, pushCells h scope.names = h) (hx1 : (relabel scope env).names.lookup x1 = some .local) (hx2 : (relabel scope env).names.lookup x2 = some .local)
    (d1 : (x1 == ("__debug__" : Str)) = false) (d2 : (x2 == ("__debug__" : Str)) = false)
    (hs : ∀ x, foldedSetIterable iter env x = pure x) (hs2 : ∀ C x, foldedSetIterable (.Name x1 p3) (compEnvC scope cl C env) x = pure x)
    (h : wpAny (model prog w) A (eval iter env) (fun xv s₁ => ∃ l k nw, ∃ rows : List Row, xv = .ref l ∧ Pur base s₀ s₁ nw kn ∧ (l, lst (rows.map fun r => .ref r.1) k) ∈ nw ++ kn ∧ (∀ r ∈ rows, (r.1, lst r.2.1 r.2.2) ∈ nw ++ kn) ∧ (rows.flatMap fun r => r.2.1).length ≤ sizeLine ∧
      (∀ D k s', Pur base s₀ s' ((D, lst (rows.flatMap fun r => r.2.1) k) :: nw) kn → Q (.ref D) s')) E s) :
    wpAny (model prog w) A (eval (.ListComp (.Name x2 p1) [⟨.Name x1 p2, iter, [], 0⟩, ⟨.Name x2 p4, .Name x1 p3, [], 0⟩] scope pos) env) Q E s := by
  rw [eval_ListComp]
  refine wpAny_comprehension_free (use := none) rfl hs hclos hkind hnames (wpAny_mono h (fun xv s₁ h₁ => ?_) fun _ _ e => e)
  obtain ⟨l, k, nw, rows, rfl, G, hl, hrows, hz, fin⟩ := h₁
  have Gb : Pur base s₁ s₁ [] (nw ++ kn) := G.rebase fun p hp => List.mem_append.mp hp
  refine iterL Gb (.inr hl) fun I oI s₂ hI G1 => ?_
  refine wpAny_newObj_type ?_
  have G2 := Pur.push (o := lst [] 0) G1 rfl
  simp only [newFunctionEnv, Option.isSome_some, if_true]
  refine wpAny_bind (wpAny_alloc ?_)
  have G3 := Pur.push (o := { cls := .type "dict", data := .dict #[] }) G2 rfl
  refine wpAny_bind (wpAny_layCells _ (fun name kind cells => by cases hkc : kind == NameKind.cell <;> simp) _ _ _ _ ?_)
  rw [hcf, hpc]
  refine wpAny_bind ?_
  rw [List.forIn_nil]
  refine wpAny_pure (wpAny_pure ?_)
  clear G2
  dsimp only at G3 ⊢
  have HC : NsO ({ cls := .type "dict", data := .dict #[] } : Obj) (fun _ => none) := by
    obtain ⟨o, es, ep, ho, hd, r⟩ := Heap.Ns.new s₁.heap (.type "dict")
    rw [Heap.get?_push_size _ rfl] at ho
    cases ho
    exact ⟨es, ep, hd, r⟩
  generalize ({ cls := .type "dict", data := .dict #[] } : Obj) = oC at G3 HC ⊢
  generalize s₂.heap.objs.size = D at G3 ⊢
  generalize (s₂.heap.push (lst [] 0)).objs.size = C at G3 ⊢
  generalize ((s₂.heap.push (lst [] 0)).push oC) = H at G3 ⊢
  generalize hs4 : ({ s₂ with heap := H } : Shared) = s₄ at G3
  clear hs4 H
  have loop : codeAny (model prog w) A (.compLoop (.ListComp (.Name x2 p1) [⟨.Name x1 p2, iter, [], 0⟩, ⟨.Name x2 p4, .Name x1 p3, [], 0⟩] scope pos) 0 (.ref I) (.ref D) (compEnvC scope cl C env)) (compPost (model prog w) A E none Q (.ref D) C) s₄ := by
    refine codeAny_loop rfl (fun m s' => ∃ i k' oI oC mC, m = rows.length + 1 - i ∧ i ≤ rows.length ∧ LI oI l i ∧ NsO oC mC ∧ Pur base s₁ s' [(C, oC), (D, lst ((rows.take i).flatMap fun r => r.2.1) k'), (I, oI)] (nw ++ kn)) (fun m s' hI' => ?_) (rows.length + 1) ⟨0, 0, oI, oC, _, rfl, Nat.zero_le _, hI, HC, G3⟩
    obtain ⟨i, k', oI, oC, mC, rfl, hi, hLI, HC, G'⟩ := hI'
    show wpAny _ A ((compTurn (.ListComp (.Name x2 p1) [⟨.Name x1 p2, iter, [], 0⟩, ⟨.Name x2 p4, .Name x1 p3, [], 0⟩] scope pos) 0 (.ref I) (.ref D) (compEnvC scope cl C env)).onRaise (fun x => do noteFrame x (compEnvC scope cl C env); theTreesLotGoes x)) _ _ s'
    refine wpAny_noted ?_
    rw [turn0]
    refine wpAny_bind (wpAny_standAt (wpAny_bind ?_))
    by_cases hlt : i < rows.length
    · have hv : (rows.map fun r => Value.ref r.1)[i]? = some (.ref rows[i].1) := by simp [hlt]
      refine nItem G' (fun o' => [(C, oC), (D, lst ((rows.take i).flatMap fun r => r.2.1) k'), (I, o')]) hLI (fun o' => .tail (.tail .head)) (.inr hl) hv fun oI' s'' hLI' G'' => ?_
      dsimp only
      refine wpAny_bind (wpAny_pure ?_)
      refine wpAny_bind (wpAny_assign_Name (sLoc (oL := oC) (m := mC) (L := C) G'' rfl (.head _) HC hkind hx1 (fun o' => [(C, o'), (D, lst ((rows.take i).flatMap fun r => r.2.1) k'), (I, oI')]) (fun o' => .head) fun oC' s3 G3 HC' => ?_))
      refine wpAny_bind (nLoc G3 (.inl (.head _)) HC' (v := .ref rows[i].1) (by simp) hkind hx1 d1 ?_)
      refine wpAny_bind (wpAny_standAt ?_)
      refine wpAny_bind (wpAny_of_eq (hs2 C _) ?_)
      have hrow := hrows _ (List.getElem_mem hlt)
      refine wpAny_bind (wpAny_holding (iterL G3 (.inr hrow) fun J oJ s4 hJ G4 => ?_))
      refine wpAny_bind (wpAny_runOwn (h := none) ?_)
      rw [Around.mark_none]
      refine innerTwo hh hkind hx2 d2 (ws := rows[i].2.1) (pre := (rows.take i).flatMap fun r => r.2.1) hrow hJ HC' G4 ?_ fun s5 oC5 mC5 k5 HC5 G5 => ?_
      · refine Nat.le_trans ?_ hz
        conv => rhs; rw [← List.take_append_drop i rows, List.drop_eq_getElem_cons hlt, List.flatMap_append, List.flatMap_cons, List.length_append, List.length_append]
        omega
      · refine wpAny_pure ⟨rfl, rows.length + 1 - (i + 1), by omega, i + 1, k5, oI', oC5, mC5, rfl, hlt, hLI', HC5, ?_⟩
        rw [List.take_add_one, List.getElem?_eq_getElem hlt, Option.toList_some, List.flatMap_append, List.flatMap_singleton]
        exact G5
    · obtain rfl : i = rows.length := by omega
      refine nEnd G' hh hLI (.tail (.tail .head)) (.inr hl) (by simp) fun s2 G2 => ?_
      dsimp only
      refine wpAny_pure ?_
      refine ⟨_, HC.ns (G2.get (.inl (.head _))), fun h' hs' => ?_⟩
      have G3 := G2.forget (s' := { s2 with heap := h' }) .head ⟨_, _, rfl⟩ fun b z hb e => hs'.extBut b z hb e
      rw [List.take_length] at G3
      exact fin D k' _ (G.trans G3)
  exact codeAny_compStart_list loop (wpAny_pyIter_listiter ⟨_, G3.get (.inl (.tail _ (.tail _ (.head _)))), hI.cls, hI.data⟩ loop)
end

section
variable {prog : Program} {w : World} {A : Around} {s : Shared} {base : Heap} {n : Nat} {Q E : Value → Shared → Prop} {name qual : Str} {params : Arguments} {body : List Stmt} {scope : Scope} {dV kV doc pm cdv ct oc : Value} {an od : Option Addr} {osl : Array (Option Value)}
  {f : Addr} {binds : List (Str × Value)} {kn : List (Addr × Obj)}
theorem callXC {vs : List Value} {kw : List (Str × Value)} (C : Cx base w A s.heap (n + 1)) (ho : (KF w).lookup f = some ⟨oc, od, .func (fnOf name qual params body scope dV kV doc pm an cdv ct), osl⟩) (hcd : codeIn (KF w) cdv qual = true)
    (hbind : BindsTo s (fnOf name qual params body scope dV kV doc pm an cdv ct) ⟨vs, kw⟩ binds) (hkind : (binds.all fun y => scope.names.lookup y.1 == some .local || scope.names.lookup y.1 == some .cell) = true)
    (hnd : ((cellsFrom 0 scope.names []).map (·.1)).Nodup) (hco : scope.isCoroutine = false) (hgen : scope.isGenerator = false) (hk : scope.kind = .function)
    (hkn : ∀ p ∈ kn, s.heap.get? p.1 = some p.2)
    (h : ∀ A' L oL s₁ cells outer, A.frames = some outer → frs A = outer.filterMap (·.frame) → A'.frames = some (envOfC qual scope L f cdv :: outer) → frs A' = L :: frs A → Pur base s s₁ (cells ++ [(L, oL)]) kn → CellsAre (bindC (envOfC qual scope L f cdv).kindOf binds fun _ => none) (cellsFrom (L + 1) scope.names []) cells →
      NsO oL (bindL (envOfC qual scope L f cdv).kindOf binds fun _ => none) → Deep base w A' s kn L n → (∀ s₂ : Shared, Heap.SlotsOnly (frs A) s.heap s₂.heap → Deep base w A' s₂ kn L n) →
      wpAny (model prog w) A' (execs body (envOfC qual scope L f cdv)) (fun fl s' => Q (retOf fl) s') (fun _ _ => False) s₁) :
    wpAny (model prog w) A (call (.ref f) vs kw) Q E s := by
  obtain ⟨outer, ho1, ho2⟩ := C.outer
  refine wpAny_call (enterC C ho hcd hbind hkind hnd hco hgen hk hkn fun L oL s₁ cells G Y H D => ?_)
  refine wpAny_mono (h _ L oL s₁ cells outer ho1 ho2 (Around.frames_deeper ho1) ?_ G Y H D fun s₂ y => Deep.of (C.slots y) rfl hk) (fun _ _ x => x) (fun _ _ x => x.elim)
  rw [frs, Around.frames_deeper ho1, frs, ho1]
  rfl
end

/-- made rows, drawn out of what a comprehension tells of each -/
theorem drawOut : ∀ {n : Nat} {P : Nat → Row → List Int × Int → Prop} {ys : List Value} {obs : List (List (Addr × Obj))}, ys.length = n → obs.length = n →
    (∀ i y ob, ys[i]? = some y → obs[i]? = some ob → ∃ r : Row, ∃ c, y = .ref r.1 ∧ ob = [(r.1, lst r.2.1 r.2.2)] ∧ P i r c) →
    ∃ (rws : List Row) (codes : List (List Int × Int)), rws.length = n ∧ codes.length = n ∧ ys = rws.map (fun r => .ref r.1) ∧ obs.flatten = rws.map (fun r => (r.1, lst r.2.1 r.2.2)) ∧ ∀ i r c, rws[i]? = some r → codes[i]? = some c → P i r c
  | 0, P, [], [], _, _, _ => ⟨[], [], rfl, rfl, rfl, rfl, fun i r c h => by simp at h⟩
  | n + 1, P, y :: ys, ob :: obs, h1, h2, h => by
    obtain ⟨r, c, rfl, rfl, hp⟩ := h 0 y ob rfl rfl
    obtain ⟨rws, codes, a1, a2, a3, a4, a5⟩ := drawOut (n := n) (P := fun i => P (i + 1)) (ys := ys) (obs := obs) (by simpa using h1) (by simpa using h2) fun i y ob e1 e2 => h (i + 1) y ob (by simpa using e1) (by simpa using e2)
    refine ⟨r :: rws, c :: codes, by simp [a1], by simp [a2], by simp [a3], by simp [a4], fun i r' c' e1 e2 => ?_⟩
    cases i with
    | zero => simp at e1 e2; subst e1 e2; exact hp
    | succ i => exact a5 i r' c' (by simpa using e1) (by simpa using e2)
  | 0, P, _ :: _, _, h, _, _ => by simp at h
  | 0, P, [], _ :: _, _, h, _ => by simp at h
  | n + 1, P, [], _, h, _, _ => by simp at h
  | n + 1, P, _ :: _, [], _, h, _ => by simp at h

section
variable {prog : Program} {w : World} {A : Around} {E : Value → Shared → Prop} {base : Heap} {s₀ s : Shared} {nw kn : List (Addr × Obj)} {Q : Value → Shared → Prop} {a b : Addr} {vs us : List Value} {k k' : Nat} {ns ms : List Int}
theorem lNe (G : Pur base s₀ s nw kn) (h1 : (a, lst vs k) ∈ nw ∨ (a, lst vs k) ∈ kn) (h2 : (b, lst us k') ∈ nw ∨ (b, lst us k') ∈ kn) (hi : IntsAre vs ns) (hi' : IntsAre us ms) (hu : A.units + 64 < cLine) (h : Q (.bool (!decide (ns = ms))) s) :
    wpAny (model prog w) A (compareOp .NotEq (.ref a) (.ref b)) Q E s := by
  exact ne_intsK (G.list h1) hi (G.list h2) hi' hu h
end

theorem mulOk {a b : Int} (ha : a.natAbs < 2 ^ 64) : IntMulOk a b := by
  refine IntMulOk.of_left ?_
  unfold Builtin.Int.intBits
  split
  · exact Nat.zero_le _
  · rename_i h0
    have : a.natAbs ≠ 0 := fun e => h0 (by simpa using Int.natAbs_eq_zero.mp e)
    exact (Nat.log2_lt this).mpr ha

theorem mulPick {many : Nat} (h1 : 1 ≤ many) (h4 : many ≤ 4) {t1 t2 t3 : Tok} : ∃ t, ([.int 16 t1, .int 4 t2, .int 1 t3] : List Value)[(((many : Int) - 1).fmod 3).toNat]? = some (.int (mulOf many) t) ∧ 0 ≤ ((many : Int) - 1).fmod 3 ∧ ((many : Int) - 1).fmod 3 < 2 ^ 63 := by
  match many, h1, h4 with
  | 1, _, _ => exact ⟨t1, rfl, by decide, by decide⟩
  | 2, _, _ => exact ⟨t2, rfl, by decide, by decide⟩
  | 3, _, _ => exact ⟨t3, rfl, by decide, by decide⟩
  | 4, _, _ => exact ⟨t1, rfl, by decide, by decide⟩
theorem mulOf_pos (many : Nat) : 0 < mulOf many := by unfold mulOf; split <;> (try split) <;> decide
theorem flat_ints : ∀ {rws : List Row} {codes : List (List Int × Int)}, rws.length = codes.length → (∀ (i : Nat) (r : Row) (c : List Int × Int), rws[i]? = some r → codes[i]? = some c → IntsAre r.2.1 (marked c.1 c.2)) → IntsAre (rws.flatMap fun r => r.2.1) (strung codes)
  | [], [], _, _ => .nil
  | [], _ :: _, h, _ => by simp at h
  | _ :: _, [], h, _ => by simp at h
  | r :: rws, c :: codes, h, hk => by
    have ih := flat_ints (rws := rws) (codes := codes) (by simpa using h) fun i r' c' e1 e2 => hk (i + 1) r' c' (by simpa using e1) (by simpa using e2)
    exact ints_iff.mpr (paired_app (ints_iff.mp (hk 0 r c rfl rfl)) (ints_iff.mp ih))
theorem strung_le : ∀ {codes : List (List Int × Int)}, (∀ c ∈ codes, Code1 c) → (strung codes).length ≤ 8 * codes.length
  | [], _ => Nat.le_refl _
  | c :: codes, h => by
    have ih := strung_le (codes := codes) fun c' hc => h c' (List.mem_cons_of_mem _ hc)
    have h1 := h c (List.mem_cons_self ..)
    have e : strung (c :: codes) = marked c.1 c.2 ++ strung codes := rfl
    rw [e, List.length_append, marked_len h1.ne, List.length_cons]
    have := h1.len
    omega

theorem sorted_at {vals : List Int} (S : vals.Pairwise (· < ·)) {j k : Nat} {a b : Int} (ha : vals[j]? = some a) (hb : vals[k]? = some b) : (a < b ↔ j < k) := by
  obtain ⟨hj, rfl⟩ := List.getElem?_eq_some_iff.mp ha
  obtain ⟨hk, rfl⟩ := List.getElem?_eq_some_iff.mp hb
  have P := List.pairwise_iff_getElem.mp S
  constructor
  · intro h
    rcases Nat.lt_trichotomy j k with q | q | q
    · exact q
    · subst q; omega
    · have := P k j hk hj q; omega
  · intro h; exact P j k hj hk h
theorem cmp_same {vals : List Int} (S : vals.Pairwise (· < ·)) {j k : Nat} {a b : Int} (ha : vals[j]? = some a) (hb : vals[k]? = some b) {M : Int} (hM : 0 < M) :
    b2i (decide (b * M < a * M)) - b2i (decide (a * M < b * M)) = b2i (decide ((k : Int) < (j : Int))) - b2i (decide ((j : Int) < (k : Int))) ∧
    b2i (decide (b < a)) - b2i (decide (a < b)) = b2i (decide ((k : Int) < (j : Int))) - b2i (decide ((j : Int) < (k : Int))) := by
  have e1 : (b * M < a * M) ↔ (b < a) := Int.mul_lt_mul_right hM
  have e2 : (a * M < b * M) ↔ (a < b) := Int.mul_lt_mul_right hM
  have e3 : (b < a) ↔ ((k : Int) < (j : Int)) := (sorted_at S hb ha).trans (by omega)
  have e4 : (a < b) ↔ ((j : Int) < (k : Int)) := (sorted_at S ha hb).trans (by omega)
  simp only [e1, e2, e3, e4, and_self]

section
variable {prog : Program} {w : World} {A : Around} {E : Value → Shared → Prop} {base : Heap} {s : Shared} {Q : Value → Shared → Prop}
abbrev objs (rws : List Row) : List (Addr × Obj) := rws.map fun r => (r.1, lst r.2.1 r.2.2)
abbrev refs (rws : List Row) : List Value := rws.map fun r => .ref r.1
theorem fmod2 (k : Nat) : 128 * ((k : Int).fmod 2) = 0 ∨ 128 * ((k : Int).fmod 2) = 128 := by
  rw [Int.fmod_eq_emod_of_nonneg _ (by decide)]; omega
set_option maxHeartbeats 16000000 in
theorem c_told {lv lr : Addr} {vv rv : List Value} {kv kr many : Nat} {vals : List Int} {tm : Tok} (C : Cx base w A s.heap 5) (hlv : s.heap.get? lv = some (lst vv kv)) (hlr : s.heap.get? lr = some (lst rv kr)) (hv : IntsAre vv vals) (hr : Paired (RB many) vals rv)
    (S : vals.Pairwise (· < ·)) (hm1 : 1 ≤ many) (hm4 : many ≤ 4) (hz : vals.length ≤ 20)
    (h : ∀ (s₂ : Shared) D kD ys s', s₂ = { s with heap := s₂.heap } → Heap.SlotsOnly (frs A) s.heap s₂.heap → IntsAre ys (vals.map fun v => v * mulOf many) → Pur base s₂ s' [(D, lst ys kD)] [] → Q (.ref D) s') :
    wpAny (model prog w) A (call (.ref 94) [.ref lv, .ref lr, .int (many : Int) tm]) Q E s := by
  refine callXC (n := 4) (binds := [(Str.ofString "values", .ref lv), (Str.ofString "rows", .ref lr), (Str.ofString "many", .int (many : Int) tm)]) (kn := [(lv, lst vv kv), (lr, lst rv kr)]) C rfl rfl (BindsTo.of_eq rfl) rfl (by decide +kernel) rfl rfl rfl ?_ fun A' L oL s₁ cells outer ho1 ho2 hfr hA G Y H D DD => ?_
  · intro p hp
    rcases List.mem_cons.mp hp with rfl | hp
    · exact hlv
    · rw [List.mem_singleton.mp hp]; exact hlr
  obtain ⟨o1, o2, rfl, d1, d2⟩ := CellsAre.two Y
  clear Y
  replace d1 : o1.data = .cell (some (.int (many : Int) tm)) := d1
  replace d2 : o2.data = .cell (some (.ref lr)) := d2
  have U := D.wd
  have hh := D.hh
  have hvl : vv.length = vals.length := hv.length
  have hrl : rv.length = vals.length := paired_len hr
  obtain ⟨m0, H0, e0⟩ : ∃ m0, NsO oL m0 ∧ m0 (Str.ofString "values") = some (.ref lv) := ⟨_, H, rfl⟩
  clear H
  -- places = [_law_places(rows[k], 128 * (k % 2)) for k in range(len(rows))]
  refine seq (fun s' => ∃ oL' m' P kP, ∃ rws : List Row, ∃ codes : List (List Int × Int), rws.length = vals.length ∧ codes.length = vals.length ∧
    (∀ (i : Nat) (r : Row) (c : List Int × Int), rws[i]? = some r → codes[i]? = some c → IntsAre r.2.1 (marked c.1 c.2) ∧ Code1 c ∧ ∃ v, vals[i]? = some v ∧ val64 c.1 = v * mulOf many) ∧
    Pur base s s' ((P, lst (refs rws) kP) :: (L + 1 + 1, o1) :: (L + 1, o2) :: (L, oL') :: objs rws) [(lv, lst vv kv), (lr, lst rv kr)] ∧ NsO oL' m' ∧ m' (Str.ofString "values") = some (.ref lv) ∧ m' (Str.ofString "places") = some (.ref P)) ?_ ?_
  · refine compGA (base := base) (s₀ := s) (m := m0) (L := L) (kn := [(lv, lst vv kv), (lr, lst rv kr)]) (fun i y ob => ∃ r : Row, ∃ c, y = .ref r.1 ∧ ob = [(r.1, lst r.2.1 r.2.2)] ∧ IntsAre r.2.1 (marked c.1 c.2) ∧ Code1 c ∧ ∃ v, vals[i]? = some v ∧ val64 c.1 = v * mulOf many)
      (by with_unfolding_all rfl) (by with_unfolding_all rfl) rfl (by decide) (by intro n; rfl) (by intro h; rfl) rfl (by intro _; rfl) rfl rfl rfl ?_
    iterate 10 walk_at "m_e"
    refine lLen G (by walk_at "m_kn") (by omega) fun t2 s2 G2 => ?_
    walk_at "m_e"
    rw [hrl]
    refine lRange G2 fun r t3 t4 s3 G3 => ?_
    refine ⟨_, oL, fun o => _, G3, H0, fun o' => by walk_at "m_rep", ?_⟩
    have Gb : Pur base s3 s3 [] _ := G3.rebase fun p hp => List.mem_append.mp hp
    refine iterR Gb (.inr (.head _)) (by rw [sizeLine_eq]; omega) fun I s4 G4 => ?_
    refine ⟨I, _, _, _, _, rfl, itrR hh, rfl, G4, by rw [sizeLine_eq]; omega, ?_, ?_⟩
    · intro C oC i v s5 m5 E' hi hV HC hm G5 hk
      obtain ⟨tv, rfl⟩ := hV
      obtain ⟨x, hx⟩ : ∃ x, vals[i]? = some x := ⟨vals[i], List.getElem?_eq_getElem hi⟩
      obtain ⟨u, hu, ⟨tb, rfl⟩, hx0, hx1⟩ := paired_getL hr hx
      iterate 7 walk_at "m_c"
      refine lItem G5 (.inr (by walk_at "m_mem")) (by omega) (by omega) (v := .bytes (rowOf many x) tb) (by simpa using hu) (by with_unfolding_all rfl) ?_
      iterate 2 walk_at "m_e"
      refine cInt G5 fun t6 s6 G6 => ?_
      iterate 2 walk_at "m_e"
      refine cInt G6 fun t7 s7 G7 => ?_
      refine iMod G7 (by decide) fun t8 s8 G8 => ?_
      refine iMul G8 (mulOk (by decide)) fun t9 s9 G9 => ?_
      refine spliced_none ?_
      have C9 : Cx base w A' s9.heap 4 := (D.here _ _ _ _ G3 (by walk_at "m_mem") H0).mono fun b o q => G9.grow b o (hk b o q)
      refine ⟨U.X.keeps G9.based, ?_⟩
      refine c_places C9 (by rw [rowOf_size]; exact hm1) (by rw [rowOf_size]; exact hm4) fun T k10 vs10 ps pad s10 hc hi10 G10 => ?_
      rw [rowOf_size, show KBw.bInts (rowOf many x) = ofBytes (rowOf many x).toList from rfl, rowOf_val hm1 hm4 hx0 hx1] at hc
      exact ⟨[(T, lst vs10 k10)], ⟨(T, vs10, k10), (ps, _), rfl, rfl, hi10, ⟨hc.in64, hc.ne, hc.len, fmod2 i⟩, x, hx, hc.val⟩, (G9.trans G10).sub (List.sublist_append_left _ _) fun p hp => nomatch hp⟩
    · intro P kP ys obs o' s5 hy hob hF G5 H5
      obtain ⟨rws, codes, a1, a2, a3, a4, a5⟩ := drawOut hy hob hF
      subst a3
      rw [a4] at G5
      refine ⟨rfl, o', _, P, kP, rws, codes, a1, a2, a5, (G5.perm (List.Perm.cons _ List.perm_append_comm)).sub ?_ (fun p hp => hp), H5, e0, rfl⟩
      exact .cons_cons _ (.cons _ (.cons_cons _ (.cons_cons _ (.cons_cons _ (.refl _)))))
  rintro s2 ⟨oL2, m2, P, kP, rws, codes, hrw, hcd, hk2, G2, H2, e1, e2⟩
  clear G
  -- numbers = [_parse_varint(iter(one)) for one in places]
  refine seq (fun s' => ∃ oL' m' N kN ns, Pur base s s' ((N, lst ns kN) :: (P, lst (refs rws) kP) :: (L + 1 + 1, o1) :: (L + 1, o2) :: (L, oL') :: objs rws) [(lv, lst vv kv), (lr, lst rv kr)] ∧ NsO oL' m' ∧ IntsAre ns (vals.map fun v => v * mulOf many) ∧
    m' (Str.ofString "values") = some (.ref lv) ∧ m' (Str.ofString "places") = some (.ref P) ∧ m' (Str.ofString "numbers") = some (.ref N)) ?_ ?_
  · refine compGA (base := base) (s₀ := s) (m := m2) (L := L) (kn := [(lv, lst vv kv), (lr, lst rv kr)]) (fun i y ob => ob = [] ∧ ∃ v, vals[i]? = some v ∧ IsI (v * mulOf many) y)
      (by with_unfolding_all rfl) (by with_unfolding_all rfl) rfl (by decide) (by intro n; rfl) (by intro h; rfl) rfl (by intro _; rfl) rfl rfl rfl ?_
    walk_at "m_e"
    refine ⟨_, oL2, fun o => _, G2, H2, fun o' => by walk_at "m_rep", ?_⟩
    have Gb : Pur base s2 s2 [] _ := G2.rebase fun p hp => List.mem_append.mp hp
    refine iterL Gb (.inr (.head _)) fun I oI s4 hI G4 => ?_
    refine ⟨I, _, _, _, oI, rfl, itrL hh (.head _), hI, G4, by rw [sizeLine_eq, List.length_map]; omega, ?_, ?_⟩
    · intro C oC i v s5 m5 E' hi hV HC hm G5 hk
      obtain ⟨r, hr5, rfl⟩ : ∃ r, rws[i]? = some r ∧ v = .ref r.1 := by
        rw [List.getElem?_map] at hV
        cases e : rws[i]? with
        | none => rw [e] at hV; cases hV
        | some r => rw [e] at hV; cases hV; exact ⟨r, rfl, rfl⟩
      have hil : i < codes.length := by rw [hcd, ← hrw]; exact (List.getElem?_eq_some_iff.mp hr5).1
      obtain ⟨hi5, hc5, x, hx, hval⟩ := hk2 i r _ hr5 (List.getElem?_eq_getElem hil)
      have hmem : (r.1, lst r.2.1 r.2.2) ∈ objs rws := List.mem_map.mpr ⟨r, List.mem_of_getElem? hr5, rfl⟩
      iterate 10 walk_at "m_c"
      refine itL G5 (.inr (.tail _ (List.mem_append_left _ (.tail _ (.tail _ (.tail _ (.tail _ hmem))))))) fun I2 oI2 s6 hI2 G6 => ?_
      refine spliced_none ?_
      have C6 : Cx base w A' s6.heap 1 := ((D.here _ _ _ _ G2 (by walk_at "m_mem") H2).less (by decide)).mono fun b o q => G6.grow b o (hk b o q)
      have hb : base.get? I2 = none := by
        cases q : base.get? I2 with
        | none => rfl
        | some o => have := G6.st _ _ q; rw [(G6.made _ (.head _)).2] at this; cases this
      refine ⟨U.X.keeps G6.based, ?_⟩
      refine c_parse (i := 0) C6 hb (G6.get (.inl (.head _))) hI2 (G6.get (.inr (.tail _ (List.mem_append_left _ (.tail _ (.tail _ (.tail _ (.tail _ hmem)))))))) hi5 (fun j _ => by rw [Nat.zero_add]) hc5.in64 hc5.ne hc5.len hc5.hi fun o' t7 s7 hI7 d7 => ?_
      have G7 := G6.change (a := I2) (o := oI2) .head d7.same d7.keep d7.here
      exact ⟨[], ⟨rfl, x, hx, t7, by rw [hval]⟩, G7.sub (List.nil_sublist _) fun p hp => nomatch hp⟩
    · intro N kN ys obs o' s5 hy hob hF G5 H5
      have hfl : obs.flatten = [] := by
        refine List.flatten_eq_nil_iff.mpr fun ob hm => ?_
        obtain ⟨i, hi⟩ := List.getElem?_of_mem hm
        have hil : i < ys.length := by rw [hy, ← hob]; exact (List.getElem?_eq_some_iff.mp hi).1
        exact (hF i _ ob (List.getElem?_eq_getElem hil) hi).1
      rw [hfl] at G5
      refine ⟨rfl, o', _, N, kN, ys, G5, H5, ints_iff.mpr (paired_of_get (by rw [hy, List.length_map, List.length_map, hrw]) fun j v hj => ?_), e1, e2, rfl⟩
      have hjl : j < obs.length := by rw [hob, ← hy]; exact (List.getElem?_eq_some_iff.mp hj).1
      obtain ⟨-, x, hx, hI⟩ := hF j v _ hj (List.getElem?_eq_getElem hjl)
      exact ⟨_, by rw [List.getElem?_map, hx]; rfl, hI⟩
  rintro s3 ⟨oL3, m3, N, kN, ns, G3, H3, hns, f1, f2, f3⟩
  clear G2
  have hsmall : ∀ v ∈ vals, v.natAbs < 2 ^ 64 := by
    intro v hv
    obtain ⟨i, hi⟩ := List.getElem?_of_mem hv
    obtain ⟨u, hu, _, h0, h1⟩ := paired_getL hr hi
    have : (256 : Int) ^ many ≤ 4294967296 := by
      match many, hm1, hm4 with
      | 1, _, _ | 2, _, _ | 3, _, _ | 4, _, _ => decide
    have : (4294967296 : Nat) < 2 ^ 64 := by decide
    omega
  -- due = [value * [16, 4, 1][(many - 1) % 3] for value in values]
  refine seq (fun s' => ∃ oL' m' B kB bs, Pur base s s' ((B, lst bs kB) :: (N, lst ns kN) :: (P, lst (refs rws) kP) :: (L + 1 + 1, o1) :: (L + 1, o2) :: (L, oL') :: objs rws) [(lv, lst vv kv), (lr, lst rv kr)] ∧ NsO oL' m' ∧ IntsAre bs (vals.map fun v => v * mulOf many) ∧
    m' (Str.ofString "places") = some (.ref P) ∧ m' (Str.ofString "numbers") = some (.ref N) ∧ m' (Str.ofString "due") = some (.ref B)) ?_ ?_
  · refine compIA (base := base) (s₀ := s) (m := m3) (L := L) (kn := [(lv, lst vv kv), (lr, lst rv kr)]) (fun _ => true) (fun v y => IsI (v * mulOf many) y) hh
      (by with_unfolding_all rfl) (by with_unfolding_all rfl) (by decide) rfl (by decide) rfl rfl rfl (by intro _; rfl) rfl ?_
    walk_at "m_e"
    refine ⟨_, vals, oL3, fun o => _, G3, .list (.inr (by walk_at "m_mem")) hv (by rw [sizeLine_eq]; omega), ⟨?_, ?_⟩, H3, fun o' => by walk_at "m_rep", ?_⟩
    · intro C oC a t s₃ m₃ E' ha HC hm G5 hk
      exact tst_nil (p := fun _ => true) (v := .none) rfl
    · intro C oC a t s5 m₃ E' ha hp HC hm G5 hk
      iterate 3 walk_at "m_e"
      refine List_ (spliced_more (cInt G5 fun t1 s6 G6 => ?_))
      refine spliced_more (cInt G6 fun t2 s7 G7 => ?_)
      refine spliced_more (cInt G7 fun t3 s8 G8 => ?_)
      refine spliced_none (lNew G8 (by rw [sizeLine_eq]; simp) fun D9 s9 G9 => ?_)
      iterate 3 walk_at "m_e"
      refine cInt G9 fun t4 s10 G10 => ?_
      refine iSub G10 fun t5 s11 G11 => ?_
      refine cInt G11 fun t6 s12 G12 => ?_
      refine iMod G12 (by decide) fun t7 s13 G13 => ?_
      obtain ⟨tp, hp1, hp2, hp3⟩ := mulPick hm1 hm4 (t1 := t1) (t2 := t2) (t3 := t3)
      refine lItem G13 (.inl (.head _)) hp2 hp3 hp1 (by with_unfolding_all rfl) ?_
      refine iMul G13 (mulOk (hsmall a ha)) fun t8 s14 G14 => ?_
      exact ⟨⟨t8, rfl⟩, G14.keeps⟩
    · intro B kB bs o' s5 hP G5 H5
      rw [List.filter_eq_self.mpr (fun _ _ => rfl)] at hP
      exact ⟨rfl, o', _, B, kB, bs, G5, H5, ints_iff.mpr (paired_map hP), f2, f3, rfl⟩
  rintro s4 ⟨oL4, m4, B, kB, bs, G4, H4, hbs, g1, g2, g3⟩
  clear G3
  -- whole = _law_numbers([place for one in places for place in one])
  refine seq (fun s' => ∃ s₂ : Shared, ∃ oL' m' Z kZ zs, s₂ = { s with heap := s₂.heap } ∧ Heap.SlotsOnly (frs A) s.heap s₂.heap ∧ Pur base s₂ s' ((Z, lst zs kZ) :: (B, lst bs kB) :: (N, lst ns kN) :: (L + 1 + 1, o1) :: (L + 1, o2) :: (L, oL') :: []) [(lv, lst vv kv), (lr, lst rv kr)] ∧ NsO oL' m' ∧ IntsAre zs (vals.map fun v => v * mulOf many) ∧
    m' (Str.ofString "numbers") = some (.ref N) ∧ m' (Str.ofString "due") = some (.ref B) ∧ m' (Str.ofString "whole") = some (.ref Z)) ?_ ?_
  · refine wpAny_Assign_Name ?_
    iterate 4 walk_at "m_c"
    have hcode : ∀ c ∈ codes, Code1 c := by
      intro c hc
      obtain ⟨i, hi⟩ := List.getElem?_of_mem hc
      have hil : i < rws.length := by rw [hrw, ← hcd]; exact (List.getElem?_eq_some_iff.mp hi).1
      exact (hk2 i _ c (List.getElem?_eq_getElem hil) hi).2.1
    have hflat := flat_ints (rws := rws) (codes := codes) (by rw [hrw, hcd]) fun i r c a b => (hk2 i r c a b).1
    have hlen := strung_le hcode
    have hfl : (rws.flatMap fun r => r.2.1).length ≤ 160 := by rw [hflat.length]; omega
    have hcv : codes.map (fun c => val64 c.1) = vals.map fun v => v * mulOf many := by
      refine List.ext_getElem? fun i => ?_
      rw [List.getElem?_map, List.getElem?_map]
      by_cases hil : i < vals.length
      · have h1 : i < codes.length := by omega
        have h2 : i < rws.length := by omega
        obtain ⟨-, -, v, hv1, hv2⟩ := hk2 i _ _ (List.getElem?_eq_getElem h2) (List.getElem?_eq_getElem h1)
        rw [hv1, List.getElem?_eq_getElem h1]
        simp [hv2]
      · rw [List.getElem?_eq_none (by omega), List.getElem?_eq_none (by omega)]; rfl
    refine compTwo (base := base) (s₀ := s) (kn := [(lv, lst vv kv), (lr, lst rv kr)]) hh (by with_unfolding_all rfl) rfl (by decide) (by intro n; rfl) (by intro h; rfl) rfl rfl (by decide) (by decide) (by intro _; rfl) (by intro _ _; rfl) ?_
    walk_at "m_e"
    refine ⟨P, kP, _, rws, rfl, G4, List.mem_append_left _ (.tail _ (.tail _ (.head _))), fun r hr => List.mem_append_left _ (.tail _ (.tail _ (.tail _ (.tail _ (.tail _ (.tail _ (List.mem_map.mpr ⟨r, hr, rfl⟩))))))), by rw [sizeLine_eq]; omega, fun F kF s5 G5 => ?_⟩
    refine spliced_none ?_
    have C5 : Cx base w A' s5.heap 2 := (D.here _ _ _ _ G5 (by walk_at "m_mem") H4).less (by decide)
    refine ⟨U.X.keeps G5.based, ?_⟩
    refine c_numbers C5 (G5.get (.inl (.head _))) hflat hcode (by omega) fun s₂ Z kZ zs s6 e6 y6 hz6 G6 => ?_
    rw [hA] at y6
    obtain ⟨s0', sl, e0', y0, G7⟩ := G5.slots (L := L) (oL := oL4) (g := fun o => (F, lst (rws.flatMap fun r => r.2.1) kF) :: (B, lst bs kB) :: (N, lst ns kN) :: (P, lst (refs rws) kP) :: (L + 1 + 1, o1) :: (L + 1, o2) :: (L, o) :: objs rws) y6 C.frames (fun p hp es j => by
      rcases List.mem_cons.mp hp with rfl | hp
      · exact fun q => nomatch q
      · rw [List.mem_singleton.mp hp]; exact fun q => nomatch q) (fun o => .tail (.tail (.tail (.tail (.tail (.tail .head))))))
    have e7 : ({ s5 with heap := s₂.heap } : Shared) = s₂ := e6.symm
    rw [e7] at G7
    have G8 := (G7.trans G6).sub (nw' := (Z, lst zs kZ) :: (B, lst bs kB) :: (N, lst ns kN) :: (L + 1 + 1, o1) :: (L + 1, o2) :: (L, { oL4 with slots := sl }) :: []) (.cons_cons _ (.cons _ (.cons_cons _ (.cons_cons _ (.cons _ (.cons_cons _ (.cons_cons _ (.cons_cons _ (List.nil_sublist _))))))))) fun p hp => hp
    have H8 := NsO.slots H4 sl
    walk_at "m_sL"
    intro o' s9 G9 H9
    exact ⟨rfl, s0', o', _, Z, kZ, zs, e0', y0, G9, H9, by rw [← hcv]; exact hz6, g2, g3, rfl⟩
  rintro s5 ⟨s₂, oL5, m5, Z, kZ, zs, e5, y5, G5, H5, hzs, k1, k2, k3⟩
  clear G4
  have D5 := DD s₂ y5
  have C5 : ∀ {s' nw o m}, Pur base s₂ s' nw [(lv, lst vv kv), (lr, lst rv kr)] → (L, o) ∈ nw → NsO o m → Cx base w A' s'.heap 4 := fun g a b => D5.here _ _ _ _ g a b
  have hun : A'.units + 64 < cLine := by
    have := (C5 G5 (by walk_at "m_mem") H5).un
    omega
  -- if numbers != due or whole != due: return None
  refine seq (fun s' => Pur base s₂ s' [(B, lst bs kB), (N, lst ns kN), (L + 1 + 1, o1), (L + 1, o2), (L, oL5)] [(lv, lst vv kv), (lr, lst rv kr)]) ?_ ?_
  · refine wpAny_If (wpAny_isTrue_BoolOp (wpAny_allTrue_Or_cons ?_))
    iterate 3 walk_at "m_e"
    refine lNe G5 (by walk_at "m_kn") (by walk_at "m_kn") hns hbs hun ?_
    walk_at "m_e"
    rw [if_neg (by simp)]
    refine wpAny_allTrue_Or_cons ?_
    iterate 3 walk_at "m_e"
    refine lNe G5 (by walk_at "m_kn") (by walk_at "m_kn") hzs hbs hun ?_
    walk_at "m_e"
    rw [if_neg (by simp)]
    refine wpAny_allTrue_Or_nil ?_
    rw [if_neg (by decide)]
    exact wpAny_execs_nil ⟨rfl, G5.sub (by walk_at "m_sub") fun p hp => hp⟩
  intro s6 G6
  clear G5
  have hnsl : ns.length = vals.length := by rw [hns.length, List.length_map]
  refine seq (fun s' => ∃ oL m, Pur base s₂ s' [(B, lst bs kB), (N, lst ns kN), (L + 1 + 1, o1), (L + 1, o2), (L, oL)] [(lv, lst vv kv), (lr, lst rv kr)] ∧ NsO oL m ∧ m (Str.ofString "numbers") = some (.ref N)) ?_ ?_
  · refine forP ?_ (by intro _; rfl)
    iterate 10 walk_at "m_e"
    refine lLen G6 (by walk_at "m_kn") (by omega) fun t7 s7 G7 => ?_
    walk_at "m_e"
    rw [hrl]
    refine lRange G7 fun r t8 t9 s8 G8 => ?_
    refine iterR G8 (.inl (.head _)) (by rw [sizeLine_eq]; omega) fun I s9 G9 => ?_
    refine ⟨fun n s' => ∃ j oL m, n = vals.length + 1 - j ∧ j ≤ vals.length ∧ Pur base s₂ s' [(I, rit vals.length j), (B, lst bs kB), (N, lst ns kN), (L + 1 + 1, o1), (L + 1, o2), (L, oL)] [(lv, lst vv kv), (lr, lst rv kr)] ∧ NsO oL m ∧ m (Str.ofString "numbers") = some (.ref N), vals.length + 1,
      ⟨0, oL5, m5, rfl, Nat.zero_le _, G9.sub (by walk_at "m_sub") (fun p hp => hp), H5, k1⟩, by intro _; rfl, ?_⟩
    rintro n s10 ⟨j, oLa, ma, rfl, hj, Ga, Ha, ka⟩
    by_cases hlt : j < vals.length
    · refine (itrR hh).item (fun o' => [(I, o'), (B, lst bs kB), (N, lst ns kN), (L + 1 + 1, o1), (L + 1, o2), (L, oLa)]) hlt rfl Ga (fun o' => .head) fun v o' s11 hV hO Gb => ?_
      subst hO
      obtain ⟨tj, rfl⟩ := hV
      refine wpAny_assign_Name ?_
      walk_at "m_sL"
      intro oLb s12 Gc Hc
      obtain ⟨xj, hxj⟩ : ∃ x, vals[j]? = some x := ⟨vals[j], List.getElem?_eq_getElem hlt⟩
      obtain ⟨uj, huj, hRj⟩ := paired_getL hr hxj
      obtain ⟨wj, hwj, hIj⟩ := paired_getL (ints_iff.mp hns) (show (vals.map fun v => v * mulOf many)[j]? = some (xj * mulOf many) by rw [List.getElem?_map, hxj]; rfl)
      obtain ⟨mb, Hc, kb1, kb2⟩ : ∃ mb, NsO oLb mb ∧ mb (Str.ofString "numbers") = some (.ref N) ∧ mb (Str.ofString "j") = some (.int (j : Int) tj) := ⟨_, Hc, ka, rfl⟩
      refine seq (fun s' => ∃ oL m, Pur base s₂ s' [(I, rit vals.length (j + 1)), (B, lst bs kB), (N, lst ns kN), (L + 1 + 1, o1), (L + 1, o2), (L, oL)] [(lv, lst vv kv), (lr, lst rv kr)] ∧ NsO oL m ∧ m (Str.ofString "numbers") = some (.ref N)) ?_ ?_
      · refine forP ?_ (by intro _; rfl)
        iterate 10 walk_at "m_e"
        refine lLen Gc (by walk_at "m_kn") (by omega) fun t13 s13 Gd => ?_
        walk_at "m_e"
        rw [hrl]
        refine lRange Gd fun r2 t14 t15 s14 Ge => ?_
        refine iterR Ge (.inl (.head _)) (by rw [sizeLine_eq]; omega) fun I2 s15 Gf => ?_
        refine ⟨fun n s' => ∃ k oL m, n = vals.length + 1 - k ∧ k ≤ vals.length ∧ Pur base s₂ s' [(I2, rit vals.length k), (I, rit vals.length (j + 1)), (B, lst bs kB), (N, lst ns kN), (L + 1 + 1, o1), (L + 1, o2), (L, oL)] [(lv, lst vv kv), (lr, lst rv kr)] ∧ NsO oL m ∧ m (Str.ofString "numbers") = some (.ref N) ∧ m (Str.ofString "j") = some (.int (j : Int) tj), vals.length + 1,
          ⟨0, oLb, mb, rfl, Nat.zero_le _, Gf.sub (by walk_at "m_sub") (fun p hp => hp), Hc, kb1, kb2⟩, by intro _; rfl, ?_⟩
        rintro n s16 ⟨k, oLd, md, rfl, hk, Gg, Hg, kd1, kd2⟩
        by_cases hltk : k < vals.length
        · refine (itrR hh).item (fun o' => [(I2, o'), (I, rit vals.length (j + 1)), (B, lst bs kB), (N, lst ns kN), (L + 1 + 1, o1), (L + 1, o2), (L, oLd)]) hltk rfl Gg (fun o' => .head) fun v o' s17 hV hO Gh => ?_
          subst hO
          obtain ⟨tk, rfl⟩ := hV
          refine wpAny_assign_Name ?_
          walk_at "m_sL"
          intro oLe s18 Gi Hi
          obtain ⟨xk, hxk⟩ : ∃ x, vals[k]? = some x := ⟨vals[k], List.getElem?_eq_getElem hltk⟩
          obtain ⟨uk, huk, hRk⟩ := paired_getL hr hxk
          obtain ⟨wk, hwk, hIk⟩ := paired_getL (ints_iff.mp hns) (show (vals.map fun v => v * mulOf many)[k]? = some (xk * mulOf many) by rw [List.getElem?_map, hxk]; rfl)
          obtain ⟨me, Hi, ke1, ke2, ke3⟩ : ∃ me, NsO oLe me ∧ me (Str.ofString "numbers") = some (.ref N) ∧ me (Str.ofString "j") = some (.int (j : Int) tj) ∧ me (Str.ofString "k") = some (.int (k : Int) tk) := ⟨_, Hi, kd1, kd2, rfl⟩
          obtain ⟨q1, q2⟩ := cmp_same S hxj hxk (mulOf_pos many)
          -- told = [...]
          refine seq (fun s' => ∃ oL m O r1 r2, Pur base s₂ s' [(O, lst [.int (b2i (decide ((k : Int) < (j : Int))) - b2i (decide ((j : Int) < (k : Int)))) r1, .int (b2i (decide ((k : Int) < (j : Int))) - b2i (decide ((j : Int) < (k : Int)))) r2] 0), (I2, rit vals.length (k + 1)), (I, rit vals.length (j + 1)), (B, lst bs kB), (N, lst ns kN), (L + 1 + 1, o1), (L + 1, o2), (L, oL)] [(lv, lst vv kv), (lr, lst rv kr)] ∧ NsO oL m ∧
            m (Str.ofString "numbers") = some (.ref N) ∧ m (Str.ofString "j") = some (.int (j : Int) tj) ∧ m (Str.ofString "k") = some (.int (k : Int) tk) ∧ m (Str.ofString "told") = some (.ref O)) ?_ ?_
          · refine wpAny_Assign_Name (List_ (spliced_more ?_))
            iterate 7 walk_at "m_c"
            refine lItem Gi (by walk_at "m_kn") (by omega) (by omega) (v := wj) (by simpa using hwj) (by with_unfolding_all rfl) ?_
            iterate 4 walk_at "m_c"
            refine lItem Gi (by walk_at "m_kn") (by omega) (by omega) (v := wk) (by simpa using hwk) (by with_unfolding_all rfl) ?_
            refine spliced_none ⟨U.X.keeps Gi.based, ?_⟩
            refine c_cmp ord_int ((C5 Gi (by walk_at "m_mem") Hi).less (by decide)) hIj hIk fun ta sa ka => ?_
            have Gia := Gi.mono ka
            rw [q1]
            refine spliced_more ?_
            iterate 7 walk_at "m_c"
            refine lItem Gia (by walk_at "m_kn") (by omega) (by omega) (v := uj) (by simpa using huj) (by with_unfolding_all rfl) ?_
            iterate 4 walk_at "m_c"
            refine lItem Gia (by walk_at "m_kn") (by omega) (by omega) (v := uk) (by simpa using huk) (by with_unfolding_all rfl) ?_
            refine spliced_none ⟨U.X.keeps Gia.based, ?_⟩
            refine c_cmp (ord_row hm1 hm4) ((C5 Gia (by walk_at "m_mem") Hi).less (by decide)) hRj hRk fun tb sb kb => ?_
            have Gib := Gia.mono kb
            rw [q2]
            refine spliced_none (lNew Gib (by rw [sizeLine_eq]; simp) fun O sc Gic => ?_)
            walk_at "m_sL"
            intro o' sd Gid Hid
            exact ⟨rfl, o', _, O, ta, tb, Gid, Hid, ke1, ke2, ke3, rfl⟩
          rintro s19 ⟨oLf, mf, O, r1, r2, Gj, Hj, kf1, kf2, kf3, kf4⟩
          refine seq (fun s' => ∃ oL m, Pur base s₂ s' [(I2, rit vals.length (k + 1)), (I, rit vals.length (j + 1)), (B, lst bs kB), (N, lst ns kN), (L + 1 + 1, o1), (L + 1, o2), (L, oL)] [(lv, lst vv kv), (lr, lst rv kr)] ∧ NsO oL m ∧ m (Str.ofString "numbers") = some (.ref N) ∧ m (Str.ofString "j") = some (.int (j : Int) tj)) ?_ ?_
          · refine wpAny_If ?_
            iterate 3 walk_at "m_e"
            refine List_ (spliced_more ?_)
            iterate 9 walk_at "m_e"
            refine bSub Gj fun t21 s21 G21 => ?_
            refine spliced_none (lNew G21 (by rw [sizeLine_eq]; simp) fun O2 s22 G22 => ?_)
            refine cInt G22 fun t23 s23 G23 => ?_
            refine lMul G23 (.inl (.head _)) (by decide) (by decide) (by simp) fun O3 s24 G24 => ?_
            have G25 : Pur base s₂ s24 ((O3, lst [.int (b2i (decide ((k : Int) < (j : Int))) - b2i (decide ((j : Int) < (k : Int)))) t21, .int (b2i (decide ((k : Int) < (j : Int))) - b2i (decide ((j : Int) < (k : Int)))) t21] 0) :: _) _ := G24
            refine lNe G25 (by walk_at "m_kn") (by walk_at "m_kn") (.cons _ _ (.cons _ _ .nil)) (.cons _ _ (.cons _ _ .nil)) hun ?_
            walk_at "m_e"
            rw [if_neg (by simp)]
            exact wpAny_execs_nil ⟨rfl, oLf, mf, G25.sub (by walk_at "m_sub") (fun p hp => hp), Hj, kf1, kf2⟩
          rintro s20 ⟨oLh, mh, Gl, Hl, kh1, kh2⟩
          exact wpAny_execs_nil ⟨rfl, vals.length + 1 - (k + 1), by omega, k + 1, oLh, mh, rfl, hltk, Gl, Hl, kh1, kh2⟩
        · obtain rfl : k = vals.length := by omega
          exact (itrR hh).done rfl Gg .head fun s17 Gh => ⟨oLd, md, Gh, Hg, kd1⟩
      · rintro s13 ⟨oLg, mg, Gk, Hk, kg⟩
        exact wpAny_execs_nil ⟨rfl, vals.length + 1 - (j + 1), by omega, j + 1, oLg, mg, rfl, hlt, Gk, Hk, kg⟩
    · obtain rfl : j = vals.length := by omega
      exact (itrR hh).done rfl Ga .head fun s11 Gb => ⟨oLa, ma, Gb, Ha, ka⟩
  rintro s7 ⟨oL7, m7, G7, H7, k7⟩
  refine seqRet ?_
  walk_at "m_e"
  exact h s₂ N kN ns s7 e5 y5 hns (G7.sub (by walk_at "m_sub") fun p hp => nomatch hp)
end

open PySem.SeqAt in
/-- equality of values told by ints -/
structure OrdE (R : Int → Value → Prop) : Prop where
  inj : ∀ {x y v}, R x v → R y v → x = y
  at_ : ∀ {A : Around} {s : Shared} {x y u v}, R x u → R y v → EqAt A s u v (decide (x = y))
open PySem.SeqAt in
theorem orde_int : OrdE IsI where
  inj := fun ⟨t, e⟩ ⟨t', e'⟩ => by rw [e] at e'; cases e'; rfl
  at_ := fun {A s x y u v} ⟨t, e⟩ ⟨t', e'⟩ => by
    subst e e'
    have := EqAt.int_int (A := A) (s := s) x t y t'
    rwa [show (x == y) = decide (x = y) from by by_cases h : x = y <;> simp [h]] at this
open PySem.SeqAt in
theorem orde_row {many : Nat} (h1 : 1 ≤ many) (h4 : many ≤ 4) : OrdE (RB many) := by
  have inj : ∀ {x y : Int}, 0 ≤ x → x < 256 ^ many → 0 ≤ y → y < 256 ^ many → rowOf many x = rowOf many y → x = y := fun a b c d e => by
    rw [← rowOf_val h1 h4 a b, ← rowOf_val h1 h4 c d, e]
  refine ⟨fun hu hv => ?_, fun {A s x y u v} hu hv => ?_⟩
  · obtain ⟨⟨t, rfl⟩, a, b⟩ := hu
    obtain ⟨⟨t', e⟩, c, d⟩ := hv
    injection e with e
    exact inj a b c d e
  · have hu' := hu
    have hv' := hv
    obtain ⟨⟨t, rfl⟩, a, b⟩ := hu
    obtain ⟨⟨t', rfl⟩, c, d⟩ := hv
    intro prog w E Q h
    unfold eqBool
    refine wpAny_holding ?_
    refine wpAny_ite_split (fun hab => ?_) (fun _ => ?_)
    · have := eq_of_beq hab
      injection this with e
      have e := inj a b c d e
      rw [decide_eq_true e] at h
      exact wpAny_bind (wpAny_rule (wpAny_pure h))
    · exact wpAny_bind ((ord_row h1 h4).eq hu' hv' (wpAny_truthy_bool h))

section
variable {prog : Program} {w : World} {A : Around} {E : Value → Shared → Prop} {base : Heap} {s₀ s : Shared} {nw kn : List (Addr × Obj)} {env : Env} {Q : Value → Shared → Prop} {R : Int → Value → Prop} {l : Addr} {vs : List Value} {k : Nat}
theorem any_paired (O : OrdE R) {x : Int} : ∀ {zs : List Int} {ws : List Value}, Paired R zs ws → ∀ (e : Value → Bool), (∀ y, e y = true ↔ R x y) → ws.any e = zs.any (fun z => z == x)
  | _, _, .nil, _, _ => rfl
  | _, _, .cons (a := z) (b := y) h t, e, he => by
    rw [List.any_cons, List.any_cons, any_paired O t e he]
    congr 1
    rw [Bool.eq_iff_iff, he, beq_iff_eq]
    exact ⟨fun q => O.inj h q, fun q => q ▸ h⟩
open PySem.SeqAt in
theorem rNotIn (O : OrdE R) {zs : List Int} {x : Int} {u : Value} (G : Pur base s₀ s nw kn) (hm : (l, lst vs k) ∈ nw ∨ (l, lst vs k) ∈ kn) (hP : Paired R zs vs) (hu : R x u) (h : Q (.bool (notIn zs x)) s) :
    wpAny (model prog w) A (compareOp .NotIn u (.ref l)) Q E s := by
  classical
  refine notIn_listAt (fun y => decide (R x y)) (G.list hm) (fun y hy => ?_) ?_
  · obtain ⟨i, hi⟩ := List.getElem?_of_mem (by simpa using hy : y ∈ vs)
    obtain ⟨z, _, hz⟩ := paired_get hP hi
    have e : decide (z = x) = decide (R x y) := by
      rw [decide_eq_decide]
      exact ⟨fun q => q ▸ hz, fun q => O.inj hz q⟩
    rw [← e]
    exact O.at_ hz hu
  · rw [← Array.any_toList, List.toList_toArray, any_paired O (x := x) hP _ fun y => by simp]
    exact h
open PySem.SeqAt in
theorem eqLists (O : OrdE R) {a b : Addr} {zs : List Int} {us ws : List Value} {ka kb : Nat} (G : Pur base s₀ s nw kn) (h1 : (a, lst us ka) ∈ nw ∨ (a, lst us ka) ∈ kn) (h2 : (b, lst ws kb) ∈ nw ∨ (b, lst ws kb) ∈ kn) (p1 : Paired R zs us) (p2 : Paired R zs ws) (hu : A.units < cLine) : EqAt A s (.ref a) (.ref b) true := by
  by_cases e : a = b
  · subst e; exact EqAt.same _
  · have l1 := paired_len p1
    have l2 := paired_len p2
    have := RcAt.lists (e := fun _ => true) (G.list h1) (G.list h2) (by simp [l1, l2]) hu fun j j1 j2 => by
      have j1' : j < us.length := by simpa using j1
      have j2' : j < ws.length := by simpa using j2
      obtain ⟨z, hz, hR⟩ := paired_get p1 (List.getElem?_eq_getElem j1')
      obtain ⟨z', hz', hR'⟩ := paired_get p2 (List.getElem?_eq_getElem j2')
      rw [hz] at hz'
      cases hz'
      have q := O.at_ (A := A.in1) (s := s) hR hR'
      rw [decide_eq_true rfl] at q
      simpa using q
    refine EqAt.of_refs e ?_
    rw [show ((List.range us.toArray.size).all fun _ => true) = true from List.all_eq_true.mpr fun _ _ => rfl] at this
    exact this
open PySem.SeqAt in
theorem eqT (O : OrdE R) {T1 T2 a1 b1 a2 b2 : Addr} {zs zs' : List Int} {u1 w1 u2 w2 : List Value} {k1 k2 ka1 kb1 ka2 kb2 : Nat} (G : Pur base s₀ s nw kn) (t1 : (T1, tup [.ref a1, .ref b1] k1) ∈ nw ∨ (T1, tup [.ref a1, .ref b1] k1) ∈ kn) (t2 : (T2, tup [.ref a2, .ref b2] k2) ∈ nw ∨ (T2, tup [.ref a2, .ref b2] k2) ∈ kn)
    (h1 : (a1, lst u1 ka1) ∈ nw ∨ (a1, lst u1 ka1) ∈ kn) (h2 : (b1, lst w1 kb1) ∈ nw ∨ (b1, lst w1 kb1) ∈ kn) (h3 : (a2, lst u2 ka2) ∈ nw ∨ (a2, lst u2 ka2) ∈ kn) (h4 : (b2, lst w2 kb2) ∈ nw ∨ (b2, lst w2 kb2) ∈ kn)
    (p1 : Paired R zs u1) (p2 : Paired R zs u2) (p3 : Paired R zs' w1) (p4 : Paired R zs' w2) (hu : A.units + 64 < cLine) :
    (Q (.bool true) s → wpAny (model prog w) A (compareOp .Eq (.ref T1) (.ref T2)) Q E s) ∧ (Q (.bool false) s → wpAny (model prog w) A (compareOp .NotEq (.ref T1) (.ref T2)) Q E s) := by
  have i1 : s.heap.IsTuple T1 (#[.ref a1, .ref b1] : Array Value) := ⟨_, G.get t1, rfl, k1, rfl⟩
  have i2 : s.heap.IsTuple T2 (#[.ref a2, .ref b2] : Array Value) := ⟨_, G.get t2, rfl, k2, rfl⟩
  have he : ∀ j (h1 : j < (#[.ref a1, .ref b1] : Array Value).size) (h2 : j < (#[.ref a2, .ref b2] : Array Value).size), EqAt A.in1 s (#[.ref a1, .ref b1] : Array Value)[j] (#[.ref a2, .ref b2] : Array Value)[j] true := by
    have hu1 : A.in1.units < cLine := by show A.units + 1 < cLine; omega
    intro j j1 j2
    match j, j1 with
    | 0, _ => exact eqLists O G h1 h3 p1 p2 hu1
    | 1, _ => exact eqLists O G h2 h4 p3 p4 hu1
  refine ⟨fun h => ?_, fun h => ?_⟩
  · exact RcAt.tuples (e := fun _ => true) i1 i2 (by omega) he prog w E Q h
  · exact RcNeAt.tuples (e := fun _ => true) i1 i2 (by omega) he prog w E Q h
theorem lSum {ns : List Int} (G : Pur base s₀ s nw kn) (hh : A.handled = none) (hm : (l, lst vs k) ∈ nw ∨ (l, lst vs k) ∈ kn) (hi : IntsAre vs ns) (hz : vs.length ≤ sizeLine) (h : ∀ X t s', Pur base s₀ s' nw kn → Q (.int X t) s') :
    wpAny (model prog w) A (call (.builtin "sum") [.ref l]) Q E s := by
  refine call_sum_walkG (srcL (A := A.in1) G hh hm hz fun I s₂ S => ?_)
  obtain ⟨fp, St, W, hlive, hst, hfp⟩ := S.walk
  obtain ⟨oI, G2⟩ := S.pur
  refine ⟨I, fp, [I], _, _, St, fun i => ns.getD i 0, rfl, W, hst, hfp, fun i v hv => ?_, fun h' tk t' hk => h _ t' _ (G2.past hk)⟩
  obtain ⟨a, ha, t, rfl⟩ := paired_get (ints_iff.mp hi) hv
  exact ⟨t, by show _ = Value.int (ns.getD i 0) t; rw [List.getD_eq_getElem?_getD, ha]; rfl⟩
/-- a slice of a list of the caller's -/
theorem lSliceO {value : Expr} {lower upper : Option Expr} {p pos : Pos}
    (h : wpAny (model prog w) A (eval value env) (fun o s₁ => wpAny (model prog w) A (evalPart lower env) (fun vl s₂ => wpAny (model prog w) A (evalPart upper env) (fun vu s₃ =>
      ∃ l vs lo hi nw, o = .ref l ∧ Pur base s₀ s₃ nw kn ∧ s₃.heap.IsList l vs ∧ vs.size ≤ sizeLine ∧ IsPart vl lo ∧ IsPart vu hi ∧
        ∀ D s', Pur base s₀ s' ((D, lst (slicePick vs lo hi none).toList 0) :: nw) kn → Q (.ref D) s') E s₂) E s₁) E s)
    (hv : ∀ o r, letTemporaryGo value o r = pure ()) : wpAny (model prog w) A (eval (.Subscript value (.Slice lower upper none p) pos) env) Q E s := by
  refine wpAny_Subscript_list_slice (wpAny_mono h (fun o s₁ h₁ => wpAny_mono h₁ (fun vl s₂ h₂ => wpAny_mono h₂ (fun vu s₃ h₃ => ?_) fun _ _ e => e) fun _ _ e => e) fun _ _ e => e) hv
  obtain ⟨l, vs, lo, hi, nw, rfl, G, hl, hz, p1, p2, hQ⟩ := h₃
  refine ⟨l, vs, lo, hi, rfl, hl, hz, p1, p2, ?_⟩
  have G1 := Pur.push (o := { cls := .type "slice", data := .fields #[vl, vu, .none] }) G rfl
  have G2 := Pur.push (o := lst (slicePick vs lo hi none).toList 0) G1 rfl
  have := hQ _ _ (G2.sub (List.Sublist.cons_cons _ (List.sublist_cons_self _ _)) fun p hp => hp)
  simpa [Heap.size_push] using this
theorem assignT {elts : List Expr} {x1 : Nat} {pos : Pos} {t : Addr} {Q : Unit → Shared → Prop} (G : Pur base s₀ s nw kn) (hh : A.handled = none) (hm : (t, tup vs k) ∈ nw ∨ (t, tup vs k) ∈ kn) (hn : (assignEach elts env).length = vs.length) (hstar : (assignEach elts env).findIdx? (·.1) = none)
    (h : ∀ s', Pur base s₀ s' nw kn → wpAny (model prog w) A (assignInOrder ((assignEach elts env).map (·.2)) vs) Q E s') : wpAny (model prog w) A (assign (.Tuple elts x1 pos) env (.ref t)) Q E s := by
  refine assign_Tuple_tuple (items := vs.toArray) hh ⟨_, G.get hm, rfl, k, rfl⟩ (by simpa using hn) hstar fun h' hx => ?_
  have := h { s with heap := h' } (G.mono ⟨_, _, rfl, fun b o q => hx b o (Nat.ne_of_lt (Heap.lt_size q)) q⟩)
  simpa using this
theorem aioT {t : Expr} {ts : List (Value → Sem Unit)} {v : Value} {xs : List Value} {Q : Unit → Shared → Prop} (h : wpAny (model prog w) A (assign t env v) (fun _ s₁ => wpAny (model prog w) A (assignInOrder ts xs) Q E s₁) E s) :
    wpAny (model prog w) A (assignInOrder (assign t env :: ts) (v :: xs)) Q E s := by
  rw [assignInOrder]
  exact wpAny_bind (wpAny_holding h)
end

-- plain laws of the shelf
theorem dedOf_mem {raw : List Int} {x : Int} (h : x ∈ dedOf raw) : x ∈ raw := by
  obtain ⟨a, ha, rfl⟩ := List.mem_map.mp h
  have := upto_mem (List.mem_filter.mp ha).1
  have hl : a.toNat < raw.length := by omega
  rw [List.getD_eq_getElem?_getD, List.getElem?_eq_getElem hl]
  exact List.getElem_mem hl
theorem upto_sorted (n : Nat) : (upto n).Pairwise (· < ·) := by
  unfold upto
  rw [List.pairwise_map]
  exact List.Pairwise.imp (fun h => by omega) List.pairwise_lt_range
theorem dedOf_nodup (raw : List Int) : (dedOf raw).Nodup := by
  unfold dedOf
  rw [List.Nodup, List.pairwise_map]
  have P := List.Pairwise.sublist (List.filter_sublist (p := fun a => !((raw.take a.toNat).any fun x => x == raw.getD a.toNat 0))) (upto_sorted raw.length)
  refine List.Pairwise.imp_of_mem (fun {a b} ha hb hab e => ?_) P
  have ha' := upto_mem (List.mem_filter.mp ha).1
  have hb' := upto_mem (List.mem_filter.mp hb).1
  have hp := (List.mem_filter.mp hb).2
  have hl : a.toNat < raw.length := by omega
  simp only [Bool.not_eq_true', List.any_eq_false] at hp
  refine hp (raw.getD a.toNat 0) ?_ (by rw [e]; simp)
  rw [List.getD_eq_getElem?_getD, List.getElem?_eq_getElem hl]
  refine List.mem_of_getElem? (i := a.toNat) ?_
  rw [List.getElem?_take, if_pos (by omega), List.getElem?_eq_getElem hl]
  rfl
theorem strict_of {vals raw : List Int} (hp : vals.Perm (dedOf raw)) (hs : vals.Pairwise (· ≤ ·)) : vals.Pairwise (· < ·) := by
  have nd : vals.Nodup := hp.nodup_iff.mpr (dedOf_nodup raw)
  exact (hs.and nd).imp fun h => Int.lt_iff_le_and_ne.mpr h
theorem rawOf_range {ns : List Int} {many : Nat} {other x : Int} (h : x ∈ rawOf ns many other) : 0 ≤ x ∧ x < 256 ^ many := by
  obtain ⟨a, _, rfl⟩ := List.mem_map.mp h
  have hp : (0 : Int) < 256 ^ many := Int.pow_pos (by decide)
  exact ⟨Int.fmod_nonneg_of_pos _ hp, Int.fmod_lt_of_pos _ hp⟩
theorem shelf_rows {ns vals : List Int} {many : Nat} {other : Int} {rv : List Value} (hp : vals.Perm (dedOf (rawOf ns many other))) (hr : Paired IsB (vals.map (rowOf many)) rv) : Paired (RB many) vals rv := by
  refine paired_of_get (by rw [paired_len hr, List.length_map]) fun j v hj => ?_
  obtain ⟨b, hb, hB⟩ := paired_get hr hj
  rw [List.getElem?_map] at hb
  cases e : vals[j]? with
  | none => rw [e] at hb; cases hb
  | some x =>
    rw [e] at hb
    cases hb
    exact ⟨x, rfl, hB, rawOf_range (dedOf_mem (hp.mem_iff.mp (List.mem_of_getElem? e)))⟩
theorem shelf_len {ns vals : List Int} {many : Nat} {other : Int} (hp : vals.Perm (dedOf (rawOf ns many other))) : vals.length ≤ ns.length := by
  rw [hp.length_eq]
  unfold dedOf
  rw [List.length_map]
  refine Nat.le_trans (List.length_filter_le _ _) ?_
  rw [upto, List.length_map, List.length_range, rawOf, List.length_map]
  exact List.length_filter_le _ _
theorem upto_get (xs : List Int) : (upto xs.length).map (fun a => xs.getD a.toNat 0) = xs := by
  refine List.ext_getElem? fun i => ?_
  unfold upto
  rw [List.map_map, List.getElem?_map]
  by_cases h : i < xs.length
  · rw [List.getElem?_range h, List.getElem?_eq_getElem h]
    simp [h]
  · rw [List.getElem?_eq_none (by simp; omega), List.getElem?_eq_none (by omega)]; rfl
theorem pick_filter (xs : List Int) (p : Int → Bool) : ((upto xs.length).filter fun a => p (xs.getD a.toNat 0)).map (fun a => xs.getD a.toNat 0) = xs.filter p := by
  conv => rhs; rw [← upto_get xs, List.filter_map]
  rfl
theorem pick_mul (xs : List Int) (p : Int → Bool) (M : Int) : ((upto xs.length).filter fun a => p (xs.getD a.toNat 0)).map (fun a => (xs.map fun v => v * M).getD a.toNat 0) = (xs.filter p).map fun v => v * M := by
  rw [← pick_filter xs p, List.map_map]
  refine List.map_congr_left fun a ha => ?_
  have := upto_mem (List.mem_filter.mp ha).1
  have hl : a.toNat < xs.length := by omega
  simp [List.getD_eq_getElem?_getD, hl]
theorem notIn_mul {ys : List Int} {x M : Int} (hM : 0 < M) : notIn (ys.map fun v => v * M) (x * M) = notIn ys x := by
  unfold notIn
  rw [List.any_map]
  congr 1
  apply List.any_congr rfl
  intro y
  show (y * M == x * M) = (y == x)
  rw [Bool.eq_iff_iff, beq_iff_eq, beq_iff_eq]
  exact ⟨fun h => Int.eq_of_mul_eq_mul_right (Int.ne_of_gt hM) h, fun h => by rw [h]⟩
theorem filter_mul {xs ys : List Int} {M : Int} (hM : 0 < M) : (xs.map fun v => v * M).filter (notIn (ys.map fun v => v * M)) = (xs.filter (notIn ys)).map fun v => v * M := by
  rw [List.filter_map]
  congr 1
  apply List.filter_congr
  intro x _
  exact notIn_mul hM
theorem strict_mul {xs : List Int} {M : Int} (hM : 0 < M) (S : xs.Pairwise (· < ·)) : (xs.map fun v => v * M).Pairwise (· < ·) := by
  rw [List.pairwise_map]
  exact S.imp fun h => (Int.mul_lt_mul_right hM).mpr h

section
variable {prog : Program} {w : World} {A : Around} {E : Value → Shared → Prop} {base : Heap} {s : Shared} {Q : Value → Shared → Prop}
set_option maxHeartbeats 16000000 in
theorem c_law {l : Addr} {vs : List Value} {ns : List Int} (C : Cx base w A s.heap 6) (hl : s.heap.IsList l vs.toArray) (hi : IntsAre vs ns) (hz : ns.length ≤ 63)
    (h : ∀ (s₂ : Shared) L oL m s', s₂ = { s with heap := s₂.heap } → Heap.SlotsOnly (frs A) s.heap s₂.heap → NsO oL m → Pur base s₂ s' [(L, oL)] [] → Q (.bool true) s') :
    wpAny (model prog w) A (call (.ref 99) [.ref l]) Q E s := by
  refine callXC (n := 5) (binds := [(Str.ofString "script", .ref l)]) (kn := []) C rfl rfl (BindsTo.of_eq rfl) rfl (by decide +kernel) rfl rfl rfl (fun _ h => nomatch h) fun A' L oL s₁ cells outer ho1 ho2 hfr hA G Y H D DD => ?_
  obtain ⟨o1, o2, o3, o4, rfl, d1, d2, d3, d4⟩ := CellsAre.four Y
  clear Y
  replace d1 : o1.data = .cell none := d1
  replace d2 : o2.data = .cell none := d2
  replace d3 : o3.data = .cell none := d3
  replace d4 : o4.data = .cell none := d4
  have U := D.wd
  have hh := D.hh
  have hvl : vs.length = ns.length := hi.length
  obtain ⟨m0, H0, e0⟩ : ∃ m0, NsO oL m0 ∧ m0 (Str.ofString "script") = some (.ref l) := ⟨_, H, rfl⟩
  clear H
  have hls : ∀ {s' nw}, Pur base s s' nw [] → s'.heap.IsList l vs.toArray := fun G => by
    obtain ⟨o, ho, hc, n, hd⟩ := hl
    exact ⟨o, G.grow _ _ ho, hc, n, hd⟩
  have hsl : IntsAre (slicePick vs.toArray none (some 4) none).toList (ns.take 4) := slice_ints_uptoW hi (by decide)
  have hsn : (slicePick vs.toArray none (some 4) none).toList.length ≤ 4 := by rw [hsl.length, List.length_take]; omega
  -- numbers, many = (script[:4] + [...], 1 + (sum(script[:4]) + 1) % 4)
  refine seq (fun s' => ∃ oL' m' N kN nv tm, ∃ nums : List Int, ∃ many : Nat, 1 ≤ many ∧ many ≤ 4 ∧ nums.length ≤ 10 ∧ IntsAre nv nums ∧ Pur base s s' [(N, lst nv kN), (L + 1 + 1 + 1 + 1, o1), (L + 1 + 1 + 1, o2), (L + 1 + 1, o3), (L + 1, o4), (L, oL')] [] ∧ NsO oL' m' ∧
    m' (Str.ofString "numbers") = some (.ref N) ∧ m' (Str.ofString "many") = some (.int (many : Int) tm)) ?_ ?_
  · refine Assign_Tuple_swapped (names := [Str.ofString "numbers", Str.ofString "many"]) ?_ (by with_unfolding_all rfl) (by with_unfolding_all rfl)
    refine Tuple_ (spliced_more ?_)
    walk_at "m_e"
    refine' lSliceO (base := base) (s₀ := s) (kn := []) ?_ (by intro _ _; rfl)
    walk_at "m_e"
    refine evalPart_none ?_
    refine evalPart_some (cInt G fun t2 s2 G2 => ?_)
    refine ⟨_, _, none, some 4, _, rfl, G2, hls G2, by simp [sizeLine_eq]; omega, .none, .int _ _, fun D3 s3 G3 => ?_⟩
    refine List_ (spliced_more (cInt G3 fun t4 s4 G4 => ?_))
    refine spliced_more (cInt G4 fun t5 s5 G5 => ?_)
    refine spliced_more (cInt G5 fun t6 s6 G6 => ?_)
    refine spliced_more (cInt G6 fun t7 s7 G7 => ?_)
    refine spliced_more (cInt G7 fun t8 s8 G8 => ?_)
    refine spliced_more (cInt G8 fun t9 s9 G9 => ?_)
    refine spliced_none (lNew G9 (by rw [sizeLine_eq]; simp) fun D10 s10 G10 => ?_)
    refine lAdd G10 (by walk_at "m_kn") (by walk_at "m_kn") (by rw [sizeLine_eq, List.length_cons, List.length_cons, List.length_cons, List.length_cons, List.length_cons, List.length_cons, List.length_nil]; omega) fun D11 s11 G11 => ?_
    refine spliced_more ?_
    walk_at "m_e"
    refine cInt G11 fun t12 s12 G12 => ?_
    iterate 5 walk_at "m_e"
    refine spliced_more ?_
    refine' lSliceO (base := base) (s₀ := s) (kn := []) ?_ (by intro _ _; rfl)
    walk_at "m_e"
    refine evalPart_none ?_
    refine evalPart_some (cInt G12 fun t13 s13 G13 => ?_)
    refine ⟨_, _, none, some 4, _, rfl, G13, hls G13, by simp [sizeLine_eq]; omega, .none, .int _ _, fun D14 s14 G14 => ?_⟩
    refine spliced_none ?_
    refine lSum G14 hh (.inl (.head _)) hsl (by rw [sizeLine_eq]; omega) fun X t15 s15 G15 => ?_
    refine cInt G15 fun t16 s16 G16 => ?_
    refine iAdd G16 fun t17 s17 G17 => ?_
    refine cInt G17 fun t18 s18 G18 => ?_
    refine iMod G18 (by decide) fun t19 s19 G19 => ?_
    refine iAdd G19 fun t20 s20 G20 => ?_
    refine spliced_none (tNew G20 (by rw [sizeLine_eq]; simp) fun T s21 G21 => ?_)
    refine unpackT G21 hh (by walk_at "m_kn") (fun s22 G22 => ?_) _
    refine aio_cons ?_
    walk_at "m_sL"
    intro o5 s23 G23 H23
    refine aio_cons ?_
    walk_at "m_sL"
    intro o6 s24 G24 H24
    refine aio_nil ?_
    have hm0 : 0 ≤ (X + 1).fmod 4 := Int.fmod_nonneg_of_pos _ (by decide)
    have hm4 : (X + 1).fmod 4 < 4 := Int.fmod_lt_of_pos _ (by decide)
    refine ⟨rfl, o6, _, D11, 0, _, t20, ns.take 4 ++ [1500, 60001, 22, 196607, 1499, 1501], (1 + (X + 1).fmod 4).toNat, by omega, by omega, ?_, ?_, G24.sub (by walk_at "m_sub") (fun p hp => hp), H24, rfl, ?_⟩
    · rw [List.length_append, List.length_take]; simp; omega
    · exact ints_iff.mpr (paired_app (ints_iff.mp hsl) (ints_iff.mp (.cons _ _ (.cons _ _ (.cons _ _ (.cons _ _ (.cons _ _ (.cons _ _ .nil))))))))
    · show some (Value.int (1 + (X + 1).fmod 4) t20) = _
      rw [show (((1 + (X + 1).fmod 4).toNat : Nat) : Int) = 1 + (X + 1).fmod 4 by omega]
  rintro s2 ⟨oL2, m2, N, kN, nv, tm, nums, many, hm1, hm4, hnl, hnv, G2, H2, a1, a2⟩
  clear G hsl hsn
  -- values, rows = _law_shelf(numbers, many, 2)
  refine seq (fun s' => ∃ oL' m' o4' V R kV kR vv rv, ∃ vals : List Int, IntsAre vv vals ∧ Paired IsB (vals.map (rowOf many)) rv ∧ vals.Perm (dedOf (rawOf nums many 2)) ∧ vals.Pairwise (· ≤ ·) ∧
    Pur base s s' [(R, lst rv kR), (V, lst vv kV), (N, lst nv kN), (L + 1 + 1 + 1 + 1, o1), (L + 1 + 1 + 1, o2), (L + 1 + 1, o3), (L + 1, o4'), (L, oL')] [] ∧ NsO oL' m' ∧ o4'.data = .cell (some (.ref R)) ∧
    m' (Str.ofString "numbers") = some (.ref N) ∧ m' (Str.ofString "many") = some (.int (many : Int) tm) ∧ m' (Str.ofString "values") = some (.ref V)) ?_ ?_
  · refine Assign_Tuple ?_ (by with_unfolding_all rfl) (by with_unfolding_all rfl)
    iterate 7 walk_at "m_c"
    refine spliced_more (cInt G2 fun t3 s3 G3 => ?_)
    refine spliced_none ⟨U.X.keeps G3.based, ?_⟩
    refine c_shelf ((D.here _ _ _ _ G3 (by walk_at "m_mem") H2).less (by decide)) (G3.get (.inl (.head _))) hnv (by omega) hm1 hm4 fun T V R kV kR vv rv vals s4 G4 h1 h2 h3 h4 => ?_
    have G5 := G3.trans G4
    refine assignT G5 hh (.inl (.head _)) rfl rfl fun s6 G6 => ?_
    refine aioT (wpAny_assign_Name ?_)
    walk_at "m_sL"
    intro o5 s7 G7 H7
    refine aioT (wpAny_assign_Name ?_)
    walk_at "m_sC"
    intro o6 s8 G8 d8
    refine aio_nil ?_
    exact ⟨rfl, o5, _, o6, V, R, kV, kR, vv, rv, vals, h1, h2, h3, h4, G8.sub (by walk_at "m_sub") (fun p hp => hp), H7, d8, a1, a2, rfl⟩
  rintro s3 ⟨oL3, m3, o4', V, R, kV, kR, vv, rv, vals, hvv, hrv, hperm, hsort, G3, H3, d4', b1, b2, b3⟩
  clear G2
  -- others, lines = _law_shelf(numbers, many, 1)
  refine seq (fun s' => ∃ oL' m' o3' W S kW kS wv sv, ∃ vals2 : List Int, IntsAre wv vals2 ∧ Paired IsB (vals2.map (rowOf many)) sv ∧ vals2.Perm (dedOf (rawOf nums many 1)) ∧ vals2.Pairwise (· ≤ ·) ∧
    Pur base s s' [(S, lst sv kS), (W, lst wv kW), (R, lst rv kR), (V, lst vv kV), (L + 1 + 1 + 1 + 1, o1), (L + 1 + 1 + 1, o2), (L + 1 + 1, o3'), (L + 1, o4'), (L, oL')] [] ∧ NsO oL' m' ∧ o3'.data = .cell (some (.ref S)) ∧
    m' (Str.ofString "many") = some (.int (many : Int) tm) ∧ m' (Str.ofString "values") = some (.ref V) ∧ m' (Str.ofString "others") = some (.ref W)) ?_ ?_
  · refine Assign_Tuple ?_ (by with_unfolding_all rfl) (by with_unfolding_all rfl)
    iterate 7 walk_at "m_c"
    refine spliced_more (cInt G3 fun t4 s4 G4 => ?_)
    refine spliced_none ⟨U.X.keeps G4.based, ?_⟩
    refine c_shelf ((D.here _ _ _ _ G4 (by walk_at "m_mem") H3).less (by decide)) (G4.get (.inl (by walk_at "m_mem"))) hnv (by omega) hm1 hm4 fun T W S kW kS wv sv vals2 s5 G5 h1 h2 h3 h4 => ?_
    have G6 := G4.trans G5
    refine assignT G6 hh (.inl (.head _)) rfl rfl fun s7 G7 => ?_
    refine aioT (wpAny_assign_Name ?_)
    walk_at "m_sL"
    intro o5 s8 G8 H8
    refine aioT (wpAny_assign_Name ?_)
    walk_at "m_sC"
    intro o6 s9 G9 d9
    refine aio_nil ?_
    exact ⟨rfl, o5, _, o6, W, S, kW, kS, wv, sv, vals2, h1, h2, h3, h4, G9.sub (by walk_at "m_sub") (fun p hp => hp), H8, d9, b2, b3, rfl⟩
  rintro s4 ⟨oL4, m4, o3', W, S, kW, kS, wv, sv, vals2, hwv, hsv, hperm2, hsort2, G4, H4, d3', c1, c2, c3⟩
  clear G3
  have S1 := strict_of hperm hsort
  have S2 := strict_of hperm2 hsort2
  have R1 := shelf_rows hperm hrv
  have R2 := shelf_rows hperm2 hsv
  have L1 : vals.length ≤ 10 := Nat.le_trans (shelf_len hperm) hnl
  have L2 : vals2.length ≤ 10 := Nat.le_trans (shelf_len hperm2) hnl
  have hM := mulOf_pos many
  -- one, two = (_law_told(values, rows, many), _law_told(others, lines, many))
  refine seq (fun s' => ∃ s₂ : Shared, ∃ oL' m' o1' o2' X Y kX kY xv yv, s₂ = { s with heap := s₂.heap } ∧ Heap.SlotsOnly (frs A) s.heap s₂.heap ∧ IntsAre xv (vals.map fun v => v * mulOf many) ∧ IntsAre yv (vals2.map fun v => v * mulOf many) ∧
    Pur base s₂ s' [(Y, lst yv kY), (X, lst xv kX), (S, lst sv kS), (R, lst rv kR), (L + 1 + 1 + 1 + 1, o1'), (L + 1 + 1 + 1, o2'), (L + 1 + 1, o3'), (L + 1, o4'), (L, oL')] [] ∧ NsO oL' m' ∧ o2'.data = .cell (some (.ref X)) ∧ o1'.data = .cell (some (.ref Y))) ?_ ?_
  · refine Assign_Tuple ?_ (by with_unfolding_all rfl) (by with_unfolding_all rfl)
    refine Tuple_ (spliced_more ?_)
    iterate 9 walk_at "m_c"
    refine spliced_none ⟨U.X.keeps G4.based, ?_⟩
    refine c_told (D.here _ _ _ _ G4 (by walk_at "m_mem") H4) (G4.get (.inl (by walk_at "m_mem"))) (G4.get (.inl (by walk_at "m_mem"))) hvv R1 S1 hm1 hm4 (by omega) fun sa X kX xv s5 ea ya hxv G5 => ?_
    rw [hA] at ya
    obtain ⟨sb, sl, eb, yb, G6⟩ := G4.slots (L := L) (oL := oL4) (g := fun o => [(S, lst sv kS), (W, lst wv kW), (R, lst rv kR), (V, lst vv kV), (L + 1 + 1 + 1 + 1, o1), (L + 1 + 1 + 1, o2), (L + 1 + 1, o3'), (L + 1, o4'), (L, o)]) ya C.frames (fun p hp => nomatch hp) (fun o => by walk_at "m_rep")
    rw [show ({ s4 with heap := sa.heap } : Shared) = sa from ea.symm] at G6
    have G7 := G6.trans G5
    have H7 := NsO.slots H4 sl
    have D7 := DD sb yb
    refine spliced_more ?_
    iterate 9 walk_at "m_c"
    refine spliced_none ⟨U.X.keeps G7.based, ?_⟩
    refine c_told (D7.here _ _ _ _ G7 (by walk_at "m_mem") H7) (G7.get (.inl (by walk_at "m_mem"))) (G7.get (.inl (by walk_at "m_mem"))) hwv R2 S2 hm1 hm4 (by omega) fun sc Y kY yv s8 ec yc hyv G8 => ?_
    rw [hA] at yc
    obtain ⟨sd, sl2, ed, yd, G9⟩ := G7.slots (L := L) (oL := { oL4 with slots := sl }) (g := fun o => [(X, lst xv kX), (S, lst sv kS), (W, lst wv kW), (R, lst rv kR), (V, lst vv kV), (L + 1 + 1 + 1 + 1, o1), (L + 1 + 1 + 1, o2), (L + 1 + 1, o3'), (L + 1, o4'), (L, o)]) yc (C.slots yb).frames (fun p hp => nomatch hp) (fun o => by walk_at "m_rep")
    rw [show ({ s5 with heap := sc.heap } : Shared) = sc from ec.symm] at G9
    have G10 := G9.trans G8
    have H10 := NsO.slots H7 sl2
    refine spliced_none (tNew G10 (by rw [sizeLine_eq]; simp) fun T s11 G11 => ?_)
    refine assignT G11 hh (.inl (.head _)) rfl rfl fun s12 G12 => ?_
    refine aioT (wpAny_assign_Name ?_)
    walk_at "m_sC"
    intro o5 s13 G13 d13
    refine aioT (wpAny_assign_Name ?_)
    walk_at "m_sC"
    intro o6 s14 G14 d14
    refine aio_nil ?_
    exact ⟨rfl, sd, _, m4, o6, o5, X, Y, kX, kY, xv, yv, by rw [ed, eb], yb.trans yd, hxv, hyv, G14.sub (by walk_at "m_sub") (fun p hp => hp), H10, d13, d14⟩
  rintro s5 ⟨s₂, oL5, m5, o1', o2', X, Y, kX, kY, xv, yv, e5, y5, hxv, hyv, G5, H5, dX, dY⟩
  clear G4 D
  have D5 := DD s₂ y5
  have C5 : ∀ {s' nw o m}, Pur base s₂ s' nw [] → (L, o) ∈ nw → NsO o m → Cx base w A' s'.heap 5 := fun g a b => D5.here _ _ _ _ g a b
  have hun : A'.units + 64 < cLine := by
    have := (C5 G5 (by walk_at "m_mem") H5).un
    omega
  -- if one is None or two is None: return False
  refine seq (fun s' => s' = s5) ?_ ?_
  · refine wpAny_If (wpAny_isTrue_BoolOp (wpAny_allTrue_Or_cons ?_))
    iterate 2 walk_at "m_e"
    refine wpAny_Constant_none (is_none ?_)
    walk_at "m_e"
    rw [if_neg (by simp)]
    refine wpAny_allTrue_Or_cons ?_
    iterate 2 walk_at "m_e"
    refine wpAny_Constant_none (is_none ?_)
    walk_at "m_e"
    rw [if_neg (by simp)]
    refine wpAny_allTrue_Or_nil ?_
    rw [if_neg (by decide)]
    exact wpAny_execs_nil ⟨rfl, rfl⟩
  rintro s6 rfl
  have hrl : rv.length = vals.length := paired_len R1
  have hslen : sv.length = vals2.length := paired_len R2
  have hxl : xv.length = vals.length := by rw [hxv.length, List.length_map]
  have hyl : yv.length = vals2.length := by rw [hyv.length, List.length_map]
  have O := orde_row hm1 hm4
  -- alone = [[k for k in range(len(rows)) if rows[k] not in lines], [k for k in range(len(lines)) if lines[k] not in rows]]
  refine seq (fun s' => ∃ oL' m' F A1 A2 k1 k2 v1 v2, IntsAre v1 ((upto vals.length).filter fun a => notIn vals2 (vals.getD a.toNat 0)) ∧ IntsAre v2 ((upto vals2.length).filter fun a => notIn vals (vals2.getD a.toNat 0)) ∧
    Pur base s₂ s' [(F, lst [.ref A1, .ref A2] 0), (A2, lst v2 k2), (A1, lst v1 k1), (Y, lst yv kY), (X, lst xv kX), (S, lst sv kS), (R, lst rv kR), (L + 1 + 1 + 1 + 1, o1'), (L + 1 + 1 + 1, o2'), (L + 1 + 1, o3'), (L + 1, o4'), (L, oL')] [] ∧ NsO oL' m' ∧ m' (Str.ofString "alone") = some (.ref F)) ?_ ?_
  · refine wpAny_Assign_Name (List_ (spliced_more ?_))
    refine compI (base := base) (s₀ := s₂) (kn := []) (fun a => notIn vals2 (vals.getD a.toNat 0)) (fun a y => IsI a y) hh (by with_unfolding_all rfl) (by decide) rfl (by decide) rfl (by intro _; rfl) ?_
    iterate 10 walk_at "m_e"
    refine lLen G5 (by walk_at "m_kn") (by omega) fun t7 s7 G7 => ?_
    walk_at "m_e"
    rw [hrl]
    refine lRange G7 fun r t8 t9 s8 G8 => ?_
    refine ⟨_, _, G8, .range (by walk_at "m_kn") (by rw [sizeLine_eq]; omega), ⟨?_, ?_⟩, ?_⟩
    · intro C oC a t s9 m9 E' ha HC hm G9 hk
      obtain ⟨ha0, ha1⟩ := upto_mem ha
      have hal : a.toNat < vals.length := by omega
      obtain ⟨u, hu, hRu⟩ := paired_getL R1 (List.getElem?_eq_getElem hal)
      refine tst_one ?_
      iterate 4 walk_at "m_e"
      refine lItem G9 (by walk_at "m_kn") ha0 (by omega) hu (by with_unfolding_all rfl) ?_
      walk_at "m_e"
      refine rNotIn O G9 (by walk_at "m_kn") R2 hRu ?_
      walk_at "m_e"
      exact ⟨by rw [List.getD_eq_getElem?_getD, List.getElem?_eq_getElem hal]; rfl, G9.keeps⟩
    · intro C oC a t s9 m9 E' ha hp HC hm G9 hk
      walk_at "m_e"
      exact ⟨⟨t, rfl⟩, G9.keeps⟩
    intro A1 k1 v1 s10 hP1 G10
    have hv1 := ints_iff.mpr hP1
    refine spliced_more ?_
    refine compI (base := base) (s₀ := s₂) (kn := []) (fun a => notIn vals (vals2.getD a.toNat 0)) (fun a y => IsI a y) hh (by with_unfolding_all rfl) (by decide) rfl (by decide) rfl (by intro _; rfl) ?_
    iterate 10 walk_at "m_e"
    refine lLen G10 (by walk_at "m_kn") (by omega) fun t11 s11 G11 => ?_
    walk_at "m_e"
    rw [hslen]
    refine lRange G11 fun r2 t12 t13 s12 G12 => ?_
    refine ⟨_, _, G12, .range (by walk_at "m_kn") (by rw [sizeLine_eq]; omega), ⟨?_, ?_⟩, ?_⟩
    · intro C oC a t s9 m9 E' ha HC hm G9 hk
      obtain ⟨ha0, ha1⟩ := upto_mem ha
      have hal : a.toNat < vals2.length := by omega
      obtain ⟨u, hu, hRu⟩ := paired_getL R2 (List.getElem?_eq_getElem hal)
      refine tst_one ?_
      iterate 4 walk_at "m_e"
      refine lItem G9 (by walk_at "m_kn") ha0 (by omega) hu (by with_unfolding_all rfl) ?_
      walk_at "m_e"
      refine rNotIn O G9 (by walk_at "m_kn") R1 hRu ?_
      walk_at "m_e"
      exact ⟨by rw [List.getD_eq_getElem?_getD, List.getElem?_eq_getElem hal]; rfl, G9.keeps⟩
    · intro C oC a t s9 m9 E' ha hp HC hm G9 hk
      walk_at "m_e"
      exact ⟨⟨t, rfl⟩, G9.keeps⟩
    intro A2 k2 v2 s14 hP2 G14
    have hv2 := ints_iff.mpr hP2
    refine spliced_none (lNew G14 (by rw [sizeLine_eq]; simp) fun F s15 G15 => ?_)
    walk_at "m_sL"
    intro o7 s16 G16 H16
    exact ⟨rfl, o7, _, F, A1, A2, k1, k2, v1, v2, hv1, hv2, G16.sub (by walk_at "m_sub") (fun p hp => hp), H16, rfl⟩
  rintro s7 ⟨oL7, m7, F, A1, A2, k1, k2, v1, v2, hv1, hv2, G7, H7, f7⟩
  clear G5
  have z1 : v1.length ≤ 10 := by
    rw [hv1.length]
    refine Nat.le_trans (List.length_filter_le _ _) ?_
    rw [upto, List.length_map, List.length_range]; omega
  have z2 : v2.length ≤ 10 := by
    rw [hv2.length]
    refine Nat.le_trans (List.length_filter_le _ _) ?_
    rw [upto, List.length_map, List.length_range]; omega
  -- if sorted_list_difference(rows, lines) != ([rows[k] for k in alone[0]], [lines[k] for k in alone[1]]): return False
  refine seq (fun s' => ∃ s₃ : Shared, ∃ oL', s₃ = { s with heap := s₃.heap } ∧ Heap.SlotsOnly (frs A) s.heap s₃.heap ∧ Pur base s₃ s' [(F, lst [.ref A1, .ref A2] 0), (A2, lst v2 k2), (A1, lst v1 k1), (Y, lst yv kY), (X, lst xv kX), (L + 1 + 1 + 1 + 1, o1'), (L + 1 + 1 + 1, o2'), (L, oL')] [] ∧ NsO oL' m7) ?_ ?_
  · refine wpAny_If ?_
    iterate 9 walk_at "m_c"
    refine ⟨U.X.keeps G7.based, ?_⟩
    refine c_diff (ord_row hm1 hm4) ((C5 G7 (by walk_at "m_mem") H7).less (by decide)) (G7.get (.inl (by walk_at "m_mem"))) (G7.get (.inl (by walk_at "m_mem"))) R1 R2 S1 S2 (by omega) (by omega) fun sa T M V' kM kV' mv uv s8 ea ya hmv huv G8 => ?_
    rw [hA] at ya
    obtain ⟨sb, sl, eb, yb, G9⟩ := G7.slots (L := L) (oL := oL7) (g := fun o => [(F, lst [.ref A1, .ref A2] 0), (A2, lst v2 k2), (A1, lst v1 k1), (Y, lst yv kY), (X, lst xv kX), (S, lst sv kS), (R, lst rv kR), (L + 1 + 1 + 1 + 1, o1'), (L + 1 + 1 + 1, o2'), (L + 1 + 1, o3'), (L + 1, o4'), (L, o)]) ya (C.slots y5).frames (fun p hp => nomatch hp) (fun o => by walk_at "m_rep")
    rw [show ({ s7 with heap := sa.heap } : Shared) = sa from ea.symm] at G9
    have G10 := G9.trans G8
    have H10 := NsO.slots H7 sl
    refine Tuple_ (spliced_more ?_)
    refine compI (base := base) (s₀ := sb) (kn := []) (fun _ => true) (fun a y => RB many (vals.getD a.toNat 0) y) hh (by with_unfolding_all rfl) (by decide) rfl (by decide) rfl (by intro _; rfl) ?_
    iterate 2 walk_at "m_e"
    refine cInt G10 fun t11 s11 G11 => ?_
    refine lItem G11 (by walk_at "m_kn") (by decide) (by decide) (v := .ref A1) rfl (by with_unfolding_all rfl) ?_
    refine ⟨_, _, G11, .list (by walk_at "m_kn") hv1 (by rw [sizeLine_eq]; omega), ⟨?_, ?_⟩, ?_⟩
    · intro C oC a t s9 m9 E' ha HC hm G9 hk
      exact tst_nil (p := fun _ => true) (v := .none) rfl
    · intro C oC a t s9 m9 E' ha hp HC hm G9 hk
      obtain ⟨ha0, ha1⟩ := upto_mem (List.mem_filter.mp ha).1
      have hal : a.toNat < vals.length := by omega
      obtain ⟨u, hu, hRu⟩ := paired_getL R1 (List.getElem?_eq_getElem hal)
      iterate 3 walk_at "m_e"
      refine lItem G9 (by walk_at "m_kn") ha0 (by omega) hu (by with_unfolding_all rfl) ?_
      exact ⟨by rw [List.getD_eq_getElem?_getD, List.getElem?_eq_getElem hal]; exact hRu, G9.keeps⟩
    intro B1 kb1 w1 s12 hB1 G12
    have hB1' := paired_map (f := fun a : Int => vals.getD a.toNat 0) (R := RB many) hB1
    rw [List.filter_eq_self.mpr (fun _ _ => rfl), pick_filter] at hB1'
    refine spliced_more ?_
    refine compI (base := base) (s₀ := sb) (kn := []) (fun _ => true) (fun a y => RB many (vals2.getD a.toNat 0) y) hh (by with_unfolding_all rfl) (by decide) rfl (by decide) rfl (by intro _; rfl) ?_
    iterate 2 walk_at "m_e"
    refine cInt G12 fun t13 s13 G13 => ?_
    refine lItem G13 (by walk_at "m_kn") (by decide) (by decide) (v := .ref A2) rfl (by with_unfolding_all rfl) ?_
    refine ⟨_, _, G13, .list (by walk_at "m_kn") hv2 (by rw [sizeLine_eq]; omega), ⟨?_, ?_⟩, ?_⟩
    · intro C oC a t s9 m9 E' ha HC hm G9 hk
      exact tst_nil (p := fun _ => true) (v := .none) rfl
    · intro C oC a t s9 m9 E' ha hp HC hm G9 hk
      obtain ⟨ha0, ha1⟩ := upto_mem (List.mem_filter.mp ha).1
      have hal : a.toNat < vals2.length := by omega
      obtain ⟨u, hu, hRu⟩ := paired_getL R2 (List.getElem?_eq_getElem hal)
      iterate 3 walk_at "m_e"
      refine lItem G9 (by walk_at "m_kn") ha0 (by omega) hu (by with_unfolding_all rfl) ?_
      exact ⟨by rw [List.getD_eq_getElem?_getD, List.getElem?_eq_getElem hal]; exact hRu, G9.keeps⟩
    intro B2 kb2 w2 s14 hB2 G14
    have hB2' := paired_map (f := fun a : Int => vals2.getD a.toNat 0) (R := RB many) hB2
    rw [List.filter_eq_self.mpr (fun _ _ => rfl), pick_filter] at hB2'
    refine spliced_none (tNew G14 (by rw [sizeLine_eq]; simp) fun T2 s15 G15 => ?_)
    refine (eqT O G15 (by walk_at "m_kn") (by walk_at "m_kn") (by walk_at "m_kn") (by walk_at "m_kn") (by walk_at "m_kn") (by walk_at "m_kn") hmv hB1' huv hB2' hun).2 ?_
    walk_at "m_e"
    rw [if_neg (by decide)]
    exact wpAny_execs_nil ⟨rfl, sb, _, by rw [eb, e5], y5.trans yb, G15.sub (by walk_at "m_sub") (fun p hp => hp), H10⟩
  rintro s8 ⟨s₃, oL8, e8, y8, G8, H8⟩
  clear G7
  have D8 := DD s₃ y8
  -- return sorted_list_difference(one, two) == ([one[k] for k in alone[0]], [two[k] for k in alone[1]])
  refine seqRet ?_
  iterate 8 walk_at "m_c"
  refine spliced_none ⟨U.X.keeps G8.based, ?_⟩
  refine c_diff ord_int ((D8.here _ _ _ _ G8 (by walk_at "m_mem") H8).less (by decide)) (G8.get (.inl (by walk_at "m_mem"))) (G8.get (.inl (by walk_at "m_mem"))) (ints_iff.mp hxv) (ints_iff.mp hyv) (strict_mul hM S1) (strict_mul hM S2) (by rw [List.length_map]; omega) (by rw [List.length_map]; omega) fun sa T M V' kM kV' mv uv s9 ea ya hmv huv G9 => ?_
  rw [filter_mul hM] at hmv huv
  rw [hA] at ya
  obtain ⟨sb, sl, eb, yb, G10⟩ := G8.slots (L := L) (oL := oL8) (g := fun o => [(F, lst [.ref A1, .ref A2] 0), (A2, lst v2 k2), (A1, lst v1 k1), (Y, lst yv kY), (X, lst xv kX), (L + 1 + 1 + 1 + 1, o1'), (L + 1 + 1 + 1, o2'), (L, o)]) ya (C.slots y8).frames (fun p hp => nomatch hp) (fun o => by walk_at "m_rep")
  rw [show ({ s8 with heap := sa.heap } : Shared) = sa from ea.symm] at G10
  have G11 := G10.trans G9
  have H11 := NsO.slots H8 sl
  refine Tuple_ (spliced_more ?_)
  refine compI (base := base) (s₀ := sb) (kn := []) (fun _ => true) (fun a y => IsI ((vals.map fun v => v * mulOf many).getD a.toNat 0) y) hh (by with_unfolding_all rfl) (by decide) rfl (by decide) rfl (by intro _; rfl) ?_
  iterate 2 walk_at "m_e"
  refine cInt G11 fun t12 s12 G12 => ?_
  refine lItem G12 (by walk_at "m_kn") (by decide) (by decide) (v := .ref A1) rfl (by with_unfolding_all rfl) ?_
  refine ⟨_, _, G12, .list (by walk_at "m_kn") hv1 (by rw [sizeLine_eq]; omega), ⟨?_, ?_⟩, ?_⟩
  · intro C oC a t s9 m9 E' ha HC hm G9 hk
    exact tst_nil (p := fun _ => true) (v := .none) rfl
  · intro C oC a t s9 m9 E' ha hp HC hm G9 hk
    obtain ⟨ha0, ha1⟩ := upto_mem (List.mem_filter.mp ha).1
    obtain ⟨tu, hu⟩ := ints_at hxv ha0 (by rw [List.length_map]; omega)
    iterate 3 walk_at "m_e"
    refine lItem G9 (by walk_at "m_kn") ha0 (by omega) hu (by with_unfolding_all rfl) ?_
    exact ⟨⟨tu, rfl⟩, G9.keeps⟩
  intro B1 kb1 w1 s13 hB1 G13
  have hB1' := paired_map (f := fun a : Int => (vals.map fun v => v * mulOf many).getD a.toNat 0) (R := IsI) hB1
  rw [List.filter_eq_self.mpr (fun _ _ => rfl), pick_mul] at hB1'
  refine spliced_more ?_
  refine compI (base := base) (s₀ := sb) (kn := []) (fun _ => true) (fun a y => IsI ((vals2.map fun v => v * mulOf many).getD a.toNat 0) y) hh (by with_unfolding_all rfl) (by decide) rfl (by decide) rfl (by intro _; rfl) ?_
  iterate 2 walk_at "m_e"
  refine cInt G13 fun t14 s14 G14 => ?_
  refine lItem G14 (by walk_at "m_kn") (by decide) (by decide) (v := .ref A2) rfl (by with_unfolding_all rfl) ?_
  refine ⟨_, _, G14, .list (by walk_at "m_kn") hv2 (by rw [sizeLine_eq]; omega), ⟨?_, ?_⟩, ?_⟩
  · intro C oC a t s9 m9 E' ha HC hm G9 hk
    exact tst_nil (p := fun _ => true) (v := .none) rfl
  · intro C oC a t s9 m9 E' ha hp HC hm G9 hk
    obtain ⟨ha0, ha1⟩ := upto_mem (List.mem_filter.mp ha).1
    obtain ⟨tu, hu⟩ := ints_at hyv ha0 (by rw [List.length_map]; omega)
    iterate 3 walk_at "m_e"
    refine lItem G9 (by walk_at "m_kn") ha0 (by omega) hu (by with_unfolding_all rfl) ?_
    exact ⟨⟨tu, rfl⟩, G9.keeps⟩
  intro B2 kb2 w2 s15 hB2 G15
  have hB2' := paired_map (f := fun a : Int => (vals2.map fun v => v * mulOf many).getD a.toNat 0) (R := IsI) hB2
  rw [List.filter_eq_self.mpr (fun _ _ => rfl), pick_mul] at hB2'
  refine spliced_none (tNew G15 (by rw [sizeLine_eq]; simp) fun T2 s16 G16 => ?_)
  refine (eqT orde_int G16 (by walk_at "m_kn") (by walk_at "m_kn") (by walk_at "m_kn") (by walk_at "m_kn") (by walk_at "m_kn") (by walk_at "m_kn") hmv hB1' huv hB2' hun).1 ?_
  refine h sb L { oL8 with slots := sl } m7 s16 (by rw [eb, e8]) (y8.trans yb) H11 (G16.sub ?_ fun p hp => hp)
  walk_at "m_sub"
end

end Mine
theorem PySem.Challenge.cw_nq0019_01_holds : PySem.Challenge.rw_nq0019_01.Holds := by
  refine Mine.hd ?_
  w_strict (
    (try k_fill)
    intro w s₀ s₁ mg mb G Y fa o pm cd doc dV kV ho hd' hcd hD hmg hg args vals as hpre hlay hrd hwl hlo
    have KX := kIn_of Y
    refine Ground.open G ?_
    intro T B D TE TW
    have hfa := (mg_of (n := Str.ofString "law") (v := .ref 99) KX T.g rfl).symm.trans hmg
    cases hfa
    clear ho hd' hcd hD hmg B D TE TW
    wrow_args hpre hlay hrd hwl hlo
    rename_i ns _ _ _ _ _ _ _ l vs _ hL _ _ _ hI _ hlen _
    refine Mine.c_law (base := s₁.heap) ⟨KX, ⟨_, _, _, _, _, T⟩, fun _ _ e => e, ⟨[], rfl, trivial, fun _ h => nomatch h⟩, rfl, by decide, by decide⟩ hL hI (by omega) fun s₂ L oL m s' e2 y H G' => ?_
    obtain ⟨h', tk, rfl⟩ := G'.same
    refine GoodW.toG ⟨.inl ⟨.bool true, .bool true, [], rfl, ?_, .bool true, ?_, fun _ => ⟨List.nodup_nil, fun a ha => nomatch ha⟩⟩, fun b o q => G'.grow b o ?_, ?_, ?_⟩
    · intro cls; rfl
    · wrow_post
    · rw [y.2.1 b (fun hm => nomatch hm)]; exact q
    · rw [e2]
    · rw [e2]; exact hg)
