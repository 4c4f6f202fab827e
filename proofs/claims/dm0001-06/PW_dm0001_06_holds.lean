import PyProof.Rows.All
import Wide.All
import OpenK.AllK
import Wide.FinOn
import KE.BytesMake
import KE.KxDecode
import PySem.Challenge.RW_dm0001_06
open PySem PySem.W PyProof.Rows
set_option Elab.async false
namespace Mine

/-- the state grew: all that stood stands -/
structure Ext (s s' : Shared) : Prop where
  heap : ∀ b o, s.heap.get? b = some o → s'.heap.get? b = some o
  os : s'.os = s.os
  bare : AllBare s.gens → AllBare s'.gens

theorem Ext.refl (s : Shared) : Ext s s := ⟨fun _ _ e => e, rfl, id⟩
theorem Ext.trans {a b c : Shared} (x : Ext a b) (y : Ext b c) : Ext a c :=
  ⟨fun q o e => y.heap q o (x.heap q o e), y.os.trans x.os, fun h => y.bare (x.bare h)⟩
theorem Ext.of_keeps {s s' : Shared} (k : Keeps s s') : Ext s s' := by
  obtain ⟨h', tk, rfl, hk⟩ := k
  exact ⟨hk, rfl, id⟩
theorem Ext.toks (s : Shared) (t : Nat) : Ext s { s with toks := t } := ⟨fun _ _ e => e, rfl, id⟩
theorem Ext.push (s : Shared) (o : Obj) : Ext s { s with heap := s.heap.push o } := ⟨fun _ _ e => Heap.get?_push_of_some _ e, rfl, id⟩

/-- what a name of the frame holds -/
def Rd (env : Env) (h : Heap) (x : Str) (v : Value) : Prop :=
  (env.kindOf x = some .local ∧ ∃ ml, h.Ns env.locals ml ∧ ml x = some v) ∨
  (env.kindOf x = some .cell ∧ ∃ c, env.cells.lookup x = some c ∧ h.IsCell c (some v))

/-- what is known of a frame's scope -/
structure EnvOk (names : List (Str × NameKind)) (env : Env) : Prop where
  kind : env.scope.kind = .function
  nms : env.scope.names = names
  globals : env.globals = mainGlobals
  builtins : env.builtins = builtinsNs
  cells : ∀ x, names.lookup x = some .cell → (env.cells.lookup x).isSome = true
theorem EnvOk.kindOf {names env} (V : EnvOk names env) (x : Str) : env.kindOf x = names.lookup x := by unfold Env.kindOf; rw [V.nms]

def isVar (names : List (Str × NameKind)) (x : Str) : Bool := decide (names.lookup x = some .local) || decide (names.lookup x = some .cell)

/-- how a frame is held: `w` its own cells may be written; `fix` the generators stand as told (else they are bare) -/
structure Mode where
  w : Bool
  fix : Option (Array GenState)
abbrev fn : Mode := ⟨true, none⟩
abbrev cp : Mode := ⟨false, none⟩
def GOk (m : Mode) (g : Array GenState) : Prop := match m.fix with
  | none => AllBare g
  | some g₀ => g = g₀

/-- a function's frame: `s₀` the state at the call, `vars` what is known of its names, `nw` objects made since -/
structure St (own : Mode) (names : List (Str × NameKind)) (s₀ : Shared) (env : Env) (vars : List (Str × Value)) (nw : List (Addr × Obj)) (s : Shared) : Prop where
  eo : EnvOk names env
  heap : ∀ b o, s₀.heap.get? b = some o → s.heap.get? b = some o
  os : s.os = s₀.os
  bare : GOk own s.gens
  ns : ∃ ml, s.heap.Ns env.locals ml
  fresh : own.w = true → s₀.heap.get? env.locals = none
  cell : own.w = true → ∀ n c, env.cells.lookup n = some c → (∃ w, s.heap.IsCell c w) ∧ c ≠ env.locals ∧ s₀.heap.get? c = none ∧ env.kindOf n = some .cell
  apart : own.w = true → ∀ n n' c, env.cells.lookup n = some c → env.cells.lookup n' = some c → n = n'
  get : ∀ x v, vars.lookup x = some v → Rd env s.heap x v
  news : ∀ p ∈ nw, s.heap.get? p.1 = some p.2 ∧ s₀.heap.get? p.1 = none ∧ p.1 ≠ env.locals ∧ (own.w = true → ∀ n c, env.cells.lookup n = some c → p.1 ≠ c)

theorem St.toks {own names s₀ env vars nw s} (I : St own names s₀ env vars nw s) (t : Nat) : St own names s₀ env vars nw { s with toks := t } :=
  ⟨I.eo, I.heap, I.os, I.bare, I.ns, I.fresh, I.cell, I.apart, I.get, I.news⟩

theorem Rd.keeps {env h h' x v} (r : Rd env h x v) (hk : ∀ b o, h.get? b = some o → h'.get? b = some o) : Rd env h' x v := by
  rcases r with ⟨k, ml, hn, e⟩ | ⟨k, c, hc, hv⟩
  · exact .inl ⟨k, ml, hn.keeps hk, e⟩
  · exact .inr ⟨k, c, hc, hv.keeps hk⟩

theorem St.grow {own names s₀ env vars nw s s'} (I : St own names s₀ env vars nw s) (xh : ∀ b o, s.heap.get? b = some o → s'.heap.get? b = some o) (xo : s'.os = s.os) (xg : GOk own s'.gens) : St own names s₀ env vars nw s' :=
  ⟨I.eo, fun b o e => xh b o (I.heap b o e), xo.trans I.os, xg, let ⟨ml, hn⟩ := I.ns; ⟨ml, hn.keeps xh⟩, I.fresh,
   fun ho n c h => let ⟨⟨w, hw⟩, l⟩ := I.cell ho n c h; ⟨⟨w, hw.keeps xh⟩, l⟩, I.apart, fun y v e => (I.get y v e).keeps xh,
   fun p hp => ⟨xh _ _ (I.news p hp).1, (I.news p hp).2⟩⟩

theorem St.ext {own names s₀ env vars nw s s'} (I : St own names s₀ env vars nw s) (x : Ext s s') (hm : own.fix = none := by rfl) : St own names s₀ env vars nw s' := by
  have e : ∀ g, GOk own g = AllBare g := fun g => by unfold GOk; rw [hm]
  exact I.grow x.heap x.os (by rw [e]; exact x.bare (by rw [← e]; exact I.bare))
theorem St.keeps {own names s₀ env vars nw s s'} (I : St own names s₀ env vars nw s) (k : Keeps s s') : St own names s₀ env vars nw s' := by
  obtain ⟨h', tk, rfl, hk⟩ := k
  exact I.grow hk rfl I.bare

/-- what is known may be forgotten -/
def Sub : List (Str × Value) → List (Str × Value) → Prop
  | [], _ => True
  | (x, v) :: r, vs => vs.lookup x = some v ∧ Sub r vs
theorem Sub.get : ∀ {a b : List (Str × Value)}, Sub a b → ∀ x v, a.lookup x = some v → b.lookup x = some v
  | (y, u) :: r, b, h, x, v, e => by
    rw [List.lookup_cons] at e
    cases q : x == y with
    | true => rw [q] at e; cases e; rw [beq_iff_eq.mp q]; exact h.1
    | false => rw [q] at e; exact Sub.get h.2 x v e
theorem St.sub {own names s₀ env vars nw s} (I : St own names s₀ env vars nw s) {vars' : List (Str × Value)} {nw' : List (Addr × Obj)} (hv : Sub vars' vars) (hn : ∀ p ∈ nw', p ∈ nw) : St own names s₀ env vars' nw' s :=
  ⟨I.eo, I.heap, I.os, I.bare, I.ns, I.fresh, I.cell, I.apart, fun x v e => I.get x v (hv.get x v e), fun p hp => I.news p (hn p hp)⟩

/-- a comprehension's frame never writes its own names: it may be held from any state of its run -/
theorem St.rebase {g names s₀ env vars nw s} (I : St ⟨false, g⟩ names s₀ env vars nw s) : St ⟨false, g⟩ names s env vars [] s :=
  ⟨I.eo, fun _ _ e => e, rfl, I.bare, I.ns, (fun q => by cases q), (fun q => by cases q), (fun q => by cases q), I.get, (fun _ hp => nomatch hp)⟩
theorem St.locals_lt {own names s₀ env vars nw s} (I : St own names s₀ env vars nw s) : env.locals < s.heap.objs.size := let ⟨_, hn⟩ := I.ns; hn.lt
theorem St.freshL {own names s₀ env vars nw s} (I : St own names s₀ env vars nw s) (hw : own.w = true) (b : Addr) (o : Obj) (e : s₀.heap.get? b = some o) : b ≠ env.locals :=
  fun h => by rw [h, I.fresh hw] at e; cases e
theorem St.freshC {own names s₀ env vars nw s} (I : St own names s₀ env vars nw s) (hw : own.w = true) (b : Addr) (o : Obj) (e : s₀.heap.get? b = some o) {n c} (h : env.cells.lookup n = some c) : b ≠ c :=
  fun q => by rw [q, (I.cell hw n c h).2.2.1] at e; cases e
theorem St.toExt {own names s₀ env vars nw s} (I : St own names s₀ env vars nw s) (hm : own.fix = none := by rfl) : Ext s₀ s :=
  ⟨I.heap, I.os, fun _ => by have := I.bare; unfold GOk at this; rw [hm] at this; exact this⟩

section
variable {M : Model} {A : Around} {E : Value → Shared → Prop} {own : Mode} {names : List (Str × NameKind)} {s₀ s : Shared} {env : Env} {vars : List (Str × Value)} {nw : List (Addr × Obj)} {x : Str} {v : Value}

theorem r_load {Q : Value → Shared → Prop} (I : St own names s₀ env vars nw s) (hv : vars.lookup x = some v) (h : Q v s) : wpAny M A (loadName env x) Q E s := by
  rcases I.get x v hv with ⟨k, ml, hn, e⟩ | ⟨k, c, hc, hw⟩
  · exact wpAny_loadName_local I.eo.kind k hn e h
  · exact wpAny_loadName_cell I.eo.kind k hc hw h
theorem r_name {Q : Value → Shared → Prop} {pos : Pos} (I : St own names s₀ env vars nw s) (hv : vars.lookup x = some v) (h : Q v s) (hd : (x == ("__debug__" : Str)) = false := by decide) :
    wpAny M A (eval (.Name x pos) env) Q E s := wpAny_Name (r_load I hv h) hd

theorem r_store {Q : Unit → Shared → Prop} (I : St own names s₀ env vars nw s) (hx : isVar names x = true) (h : ∀ s', St own names s₀ env ((x, v) :: vars) nw s' → Q () s') (how : own.w = true := by rfl) : wpAny M A (storeName env x v) Q E s := by
  have hkl : (env.scope.kind == .class || (env.scope.kind == .module && env.locals != env.globals)) = false := by rw [I.eo.kind]; rfl
  unfold isVar at hx
  rcases Bool.or_eq_true_iff.mp hx with q | q
  · have hk : env.kindOf x = some .local := (I.eo.kindOf x).trans (of_decide_eq_true q)
    obtain ⟨ml, hn⟩ := I.ns
    refine wpAny_storeName_local hk hn (fun h' hn' hs' => h _ ?_) hkl
    refine ⟨I.eo, fun b o e => hs'.extBut b o (I.freshL how b o e) (I.heap b o e), I.os, I.bare, ⟨_, hn'⟩, I.fresh, fun _ n c hc => ?_, I.apart, fun y u e => ?_, fun p hp => ?_⟩
    · obtain ⟨⟨w, hw⟩, l, k⟩ := I.cell how n c hc
      exact ⟨⟨w, hw.sameBut hs' l⟩, l, k⟩
    · rw [List.lookup_cons] at e
      cases hb : y == x with
      | true =>
        rw [hb] at e; cases e
        have := beq_iff_eq.mp hb
        subst this
        exact .inl ⟨hk, _, hn', by simp⟩
      | false =>
        rw [hb] at e
        have hne : y ≠ x := by simpa using hb
        rcases I.get y u e with ⟨k, ml', hn2, e2⟩ | ⟨k, c, hc, hw⟩
        · refine .inl ⟨k, _, hn', ?_⟩
          have : ml' = ml := by
            obtain ⟨o1, es1, ep1, ho1, hd1, _, hf1⟩ := hn
            obtain ⟨o2, es2, ep2, ho2, hd2, _, hf2⟩ := hn2
            rw [ho1] at ho2; cases ho2
            rw [hd1] at hd2; cases hd2
            funext z; rw [← hf1, ← hf2]
          subst this
          simp [hne, e2]
        · exact .inr ⟨k, c, hc, hw.sameBut hs' (I.cell how y c hc).2.1⟩
    · obtain ⟨a1, a2, a3, a4⟩ := I.news p hp
      exact ⟨hs'.extBut _ _ a3 a1, a2, a3, a4⟩
  · have hk : env.kindOf x = some .cell := (I.eo.kindOf x).trans (of_decide_eq_true q)
    obtain ⟨c, hc⟩ := Option.isSome_iff_exists.mp (I.eo.cells x (of_decide_eq_true q))
    obtain ⟨⟨w, hw⟩, l, _⟩ := I.cell how x c hc
    refine wpAny_storeName_cell I.eo.kind hk hc hw fun h' hc' hs' => h _ ?_
    refine ⟨I.eo, fun b o e => hs'.extBut b o (I.freshC how b o e hc) (I.heap b o e), I.os, I.bare, let ⟨ml, hn⟩ := I.ns; ⟨ml, hn.sameBut hs' (Ne.symm l)⟩, I.fresh, fun _ n c' hc2 => ?_, I.apart, fun y u e => ?_, fun p hp => ?_⟩
    · obtain ⟨⟨w', hw'⟩, l', k'⟩ := I.cell how n c' hc2
      by_cases hcc : c' = c
      · subst hcc; exact ⟨⟨_, hc'⟩, l', k'⟩
      · exact ⟨⟨w', hw'.sameBut hs' hcc⟩, l', k'⟩
    · rw [List.lookup_cons] at e
      cases hb : y == x with
      | true =>
        rw [hb] at e; cases e
        have := beq_iff_eq.mp hb
        subst this
        exact .inr ⟨hk, c, hc, hc'⟩
      | false =>
        rw [hb] at e
        have hne : y ≠ x := by simpa using hb
        rcases I.get y u e with ⟨k, ml', hn2, e2⟩ | ⟨k, c2, hc2, hw2⟩
        · exact .inl ⟨k, ml', hn2.sameBut hs' (Ne.symm l), e2⟩
        · refine .inr ⟨k, c2, hc2, hw2.sameBut hs' fun hcc => hne ?_⟩
          subst hcc
          exact I.apart how y x _ hc2 hc
    · obtain ⟨a1, a2, a3, a4⟩ := I.news p hp
      exact ⟨hs'.extBut _ _ (a4 how x c hc) a1, a2, a3, a4⟩

/-- a new object onto the ledger -/
theorem St.push (I : St own names s₀ env vars nw s) (o : Obj) (hf : o.isFreed = false) : St own names s₀ env vars ((s.heap.objs.size, o) :: nw) { s with heap := s.heap.push o } := by
  have J := I.keeps (s' := { s with heap := s.heap.push o }) ⟨_, _, rfl, fun _ _ e => Heap.get?_push_of_some _ e⟩
  refine ⟨J.eo, J.heap, J.os, J.bare, J.ns, J.fresh, J.cell, J.apart, J.get, fun p hp => ?_⟩
  rcases List.mem_cons.mp hp with rfl | hp
  · refine ⟨Heap.get?_push_size _ hf, ?_, Nat.ne_of_gt I.locals_lt, fun hw n c hc => ?_⟩
    · cases e : s₀.heap.get? s.heap.objs.size with
      | none => rfl
      | some o' => exact absurd (Heap.lt_size (I.heap _ _ e)) (Nat.lt_irrefl _)
    · obtain ⟨⟨w, hw⟩, _⟩ := I.cell hw n c hc
      exact Nat.ne_of_gt hw.lt
  · exact J.news p hp

/-- an object that was not there before goes onto the ledger -/
theorem St.more {s' : Shared} (I : St own names s₀ env vars nw s) (J : St own names s₀ env vars nw s') {a : Addr} {o : Obj} (ho : s'.heap.get? a = some o) (hn : s.heap.get? a = none) : St own names s₀ env vars ((a, o) :: nw) s' := by
  refine ⟨J.eo, J.heap, J.os, J.bare, J.ns, J.fresh, J.cell, J.apart, J.get, fun p hp => ?_⟩
  rcases List.mem_cons.mp hp with rfl | hp
  · refine ⟨ho, ?_, fun e => ?_, fun hw n c hc e => ?_⟩
    · cases e : s₀.heap.get? a with
      | none => rfl
      | some o' => rw [I.heap _ _ e] at hn; cases hn
    · obtain ⟨ml, o1, es1, ep1, ho1, _⟩ := I.ns
      have e' : a = env.locals := e
      rw [e', ho1] at hn; cases hn
    · obtain ⟨⟨w, o1, ho1, _⟩, _⟩ := I.cell hw n c hc
      have e' : a = c := e
      rw [e', ho1] at hn; cases hn
  · exact J.news p hp

/-- an object of the ledger is changed -/
theorem St.setAt {a : Addr} {o o' : Obj} {h' : Heap} (I : St own names s₀ env vars ((a, o) :: nw) s) (hs : Heap.SameBut a s.heap h') (ho : h'.get? a = some o') (hne : ∀ p ∈ nw, p.1 ≠ a) (hown : own.w = false → ∀ n c, env.cells.lookup n = some c → a ≠ c := by intro h; cases h) : St own names s₀ env vars ((a, o') :: nw) { s with heap := h' } := by
  obtain ⟨a1, a2, a3, a4⟩ := I.news (a, o) (.head _)
  refine ⟨I.eo, fun b ob e => hs.extBut b ob (fun q => by subst q; rw [a2] at e; cases e) (I.heap b ob e), I.os, I.bare, let ⟨ml, hn⟩ := I.ns; ⟨ml, hn.sameBut hs (Ne.symm a3)⟩, I.fresh, fun hq n c hc => ?_, I.apart, fun y u e => ?_, fun p hp => ?_⟩
  · obtain ⟨⟨w, hw⟩, l⟩ := I.cell hq n c hc
    exact ⟨⟨w, hw.sameBut hs (Ne.symm (a4 hq n c hc))⟩, l⟩
  · rcases I.get y u e with ⟨k, ml', hn2, e2⟩ | ⟨k, c2, hc2, hw2⟩
    · exact .inl ⟨k, ml', hn2.sameBut hs (Ne.symm a3), e2⟩
    · refine .inr ⟨k, c2, hc2, hw2.sameBut hs fun q => ?_⟩
      cases hw : own.w with
      | true => exact a4 hw y c2 hc2 q.symm
      | false => exact hown hw y c2 hc2 q.symm
  · rcases List.mem_cons.mp hp with rfl | hp
    · exact ⟨ho, a2, a3, a4⟩
    · obtain ⟨b1, b2⟩ := I.news p (.tail _ hp)
      exact ⟨hs.extBut _ _ (hne p hp) b1, b2⟩

theorem St.nwSub {nw' : List (Addr × Obj)} (I : St own names s₀ env vars nw s) (hn : ∀ p ∈ nw', p ∈ nw) : St own names s₀ env vars nw' s :=
  ⟨I.eo, I.heap, I.os, I.bare, I.ns, I.fresh, I.cell, I.apart, I.get, fun p hp => I.news p (hn p hp)⟩
end

/-- what every call may lean on: the text's own objects, the names of the module and the built-ins -/
structure Glb (K : Frag) (h : Heap) : Prop where
  inK : K.In h
  g : ∃ mg, h.Ns mainGlobals mg
  b : ∃ mb, h.Ns builtinsNs mb ∧ ∀ x : Str, x ≠ "__name__" → mb x = bootBuiltins x
  lim : h.NoLimit
theorem Glb.keeps {K : Frag} {h h' : Heap} (G : Glb K h) (hk : ∀ b o, h.get? b = some o → h'.get? b = some o) : Glb K h' :=
  ⟨fun a o e => hk a o (G.inK a o e), let ⟨mg, x⟩ := G.g; ⟨mg, x.keeps hk⟩, let ⟨mb, x, y⟩ := G.b; ⟨mb, x.keeps hk, y⟩, G.lim.keeps hk⟩

theorem lookup_mem {x : Str} {k : NameKind} {names : List (Str × NameKind)} (h : names.lookup x = some k) : (x, k) ∈ names := mem_of_lookup h

theorem bindL_eq (kindOf : Str → Option NameKind) (x : Str) (hk : kindOf x = some .local) : ∀ (binds : List (Str × Value)) (m : Str → Option Value),
    bindL kindOf binds m x = (binds.reverse.lookup x).or (m x)
  | [], m => by simp [bindL]
  | (n, v) :: r, m => by
    unfold bindL
    rw [bindL_eq kindOf x hk r, List.reverse_cons, List.lookup_append, List.lookup_cons]
    cases hb : x == n with
    | true =>
      have e := beq_iff_eq.mp hb
      subst e
      rw [if_pos hk]
      cases r.reverse.lookup x <;> simp
    | false =>
      have hne : x ≠ n := by simpa using hb
      by_cases hn : kindOf n = some .local
      · rw [if_pos hn]; cases r.reverse.lookup x <;> simp [hne]
      · rw [if_neg hn]; cases r.reverse.lookup x <;> simp
theorem bindC_eq (kindOf : Str → Option NameKind) (x : Str) (hk : ¬ kindOf x = some .local) : ∀ (binds : List (Str × Value)) (m : Str → Option Value),
    bindC kindOf binds m x = (binds.reverse.lookup x).or (m x)
  | [], m => by simp [bindC]
  | (n, v) :: r, m => by
    unfold bindC
    rw [bindC_eq kindOf x hk r, List.reverse_cons, List.lookup_append, List.lookup_cons]
    cases hb : x == n with
    | true =>
      have e := beq_iff_eq.mp hb
      subst e
      rw [if_neg hk]
      cases r.reverse.lookup x <;> simp
    | false =>
      have hne : x ≠ n := by simpa using hb
      by_cases hn : kindOf n = some .local
      · rw [if_pos hn]; cases r.reverse.lookup x <;> simp
      · rw [if_neg hn]; cases r.reverse.lookup x <;> simp [hne]

theorem cellsFrom_kind {x : Str} {c : Addr} : ∀ (names : List (Str × NameKind)) (n : Nat) (acc : List (Str × Addr)), (x, c) ∈ cellsFrom n names acc → (x, .cell) ∈ names ∨ (x, c) ∈ acc
  | [], _, _, h => .inr h
  | (y, k) :: r, n, acc, h => by
    unfold cellsFrom at h
    by_cases hk : (k == .cell) = true
    · rw [if_pos hk] at h
      have hk' : k = .cell := by simpa using hk
      subst hk'
      rcases cellsFrom_kind r _ _ h with q | q
      · exact .inl (.tail _ q)
      · rcases List.mem_cons.mp q with e | q
        · cases e; exact .inl (.head _)
        · exact .inr q
    · rw [if_neg hk] at h
      rcases cellsFrom_kind r _ _ h with q | q
      · exact .inl (.tail _ q)
      · exact .inr q

/-- the names of a scope: each cell is looked up as one -/
def cellsOk (names : List (Str × NameKind)) : Bool := names.all fun p => decide (p.2 = .cell → names.lookup p.1 = some .cell)

def retOf : Flow → Value
  | .ret v => v
  | _ => .none

/-- the frame of a call -/
abbrev fEnv (fd : FuncData) (L a : Addr) : Env := callEnvC fd L a

theorem st_of_inCall {fd : FuncData} {L a : Addr} {binds : List (Str × Value)} {s s' : Shared} (hk : fd.scope.kind = .function) (hc : cellsOk fd.scope.names = true) (hgl : fd.globals = mainGlobals) (hbi : fd.builtins = builtinsNs)
    (hb : (binds.all fun y => isVar fd.scope.names y.1) = true)
    (hcl : ∀ x, fd.scope.names.lookup x = some .cell → ((cellsFrom (L + 1) fd.scope.names []).lookup x).isSome = true)
    (hg : AllBare s.gens)
    (x : InCallC s L (bindL (fEnv fd L a).kindOf binds fun _ => none) (fEnv fd L a).cells (bindC (fEnv fd L a).kindOf binds fun _ => none) s') :
    St fn fd.scope.names s (fEnv fd L a) binds.reverse [] s' := by
  have key : ∀ n c, (fEnv fd L a).cells.lookup n = some c → (fEnv fd L a).kindOf n = some .cell := fun n c h => by
    rcases cellsFrom_kind _ _ _ (mem_of_lookup h) with q | q
    · have := List.all_eq_true.mp hc _ q
      exact of_decide_eq_true this rfl
    · cases q
  obtain ⟨h', tk, rfl⟩ := x.toInCall.same
  have none_of : ∀ b, s.heap.objs.size ≤ b → s.heap.get? b = none := fun b hb => by
    cases e : s.heap.get? b with
    | none => rfl
    | some o => exact absurd (Heap.lt_size e) (Nat.not_lt.mpr hb)
  refine ⟨⟨hk, rfl, hgl, hbi, hcl⟩, x.toInCall.keep, rfl, hg, ⟨_, x.toInCall.ns⟩, fun _ => none_of _ x.toInCall.fresh, fun _ n c h => ⟨⟨_, x.cell n c h⟩, Nat.ne_of_gt (x.above n c (mem_of_lookup h)), none_of _ (Nat.le_of_lt (Nat.lt_of_le_of_lt x.toInCall.fresh (x.above n c (mem_of_lookup h)))), key n c h⟩, fun _ n n' c h h' => name_of_addr x.apart (mem_of_lookup h) (mem_of_lookup h'), fun y v e => ?_, fun p hp => nomatch hp⟩
  have hm : (y, v) ∈ binds := List.mem_reverse.mp (mem_of_lookup e)
  have := List.all_eq_true.mp hb _ hm
  rcases Bool.or_eq_true_iff.mp this with q | q
  · have q' : (fEnv fd L a).kindOf y = some .local := of_decide_eq_true q
    refine .inl ⟨q', _, x.toInCall.ns, ?_⟩
    rw [bindL_eq _ _ q', e]; rfl
  · have q' : (fEnv fd L a).kindOf y = some .cell := of_decide_eq_true q
    obtain ⟨c, hc'⟩ := Option.isSome_iff_exists.mp (hcl y q')
    refine .inr ⟨q', c, hc', ?_⟩
    have := x.cell y c hc'
    rw [bindC_eq _ _ (by rw [q']; decide), e] at this
    exact this

section
variable {prog : Program} {w : World} {A : Around} {E : Value → Shared → Prop} {s : Shared}

/-- a call of one of the text's defs -/
theorem r_call {f : Addr} {o : Obj} {fd : FuncData} {body : List Stmt} {args : List Value} {Q : Value → Shared → Prop} (names : List (Str × NameKind)) (binds : List (Str × Value))
    (hroom : A.depth < recursionLimit) (ho : s.heap.get? f = some o) (hd : o.data = .func fd) (hbody : fd.body = .stmts body) (hlim : s.heap.NoLimit) (hcd : s.heap.CodeRec fd.code fd.qualname)
    (hbind : bindArgs fd ⟨args, []⟩ = pure binds) (hcl : fd.closure = []) (hk : fd.scope.kind = .function) (hco : fd.scope.isCoroutine = false) (hgen : fd.scope.isGenerator = false) (hgl : fd.globals = mainGlobals) (hbi : fd.builtins = builtinsNs)
    (hnm : fd.scope.names = names) (hc : cellsOk names = true) (hb : (binds.all fun y => isVar names y.1) = true)
    (hg : AllBare s.gens)
    (h : ∀ env s', St fn names s env binds.reverse [] s' →
      wpAny (model prog w) (A.deeper env) (execs body env) (fun fl s'' => Q (retOf fl) s'') (fun _ _ => False) s') :
    wpAny (model prog w) A (call (.ref f) args) Q E s := by
  subst hnm
  refine wpAny_call (codeAny_call_function hroom ho hd hco hgen hbody hcd ?_)
  rw [hbind]
  refine wpAny_pure ?_
  rw [hcl]
  have hcs : ∀ x, fd.scope.names.lookup x = some .cell → ((cellsFrom (s.heap.objs.size + 1) fd.scope.names []).lookup x).isSome = true := fun x hx => cellsFrom_some _ _ _ (.inl hx)
  refine wpAny_newFunctionEnv_cells hk (fun x hx => ?_) fun env he s' x => ?_
  · have := List.all_eq_true.mp hb _ hx
    rcases Bool.or_eq_true_iff.mp this with q | q
    · exact .inl (of_decide_eq_true q)
    · exact .inr ⟨of_decide_eq_true q, hcs _ (of_decide_eq_true q)⟩
  · subst he
    refine ⟨hlim.keeps x.toInCall.keep, codeAny_func ?_⟩
    refine wpAny_mono (h (fEnv fd s.heap.objs.size f) s' (st_of_inCall hk hc hgl hbi hb hcs hg x)) (fun fl s'' hq => ?_) fun _ _ e => e.elim
    cases fl <;> exact hq
end

/-- a text by the numbers of its signs -/
abbrev mkS (l : List Nat) : Str := ⟨l.toArray⟩
theorem mkS_length (l : List Nat) : (mkS l).length = l.length := by simp [Str.length]
theorem mkS_append (a b : List Nat) : mkS a ++ mkS b = mkS (a ++ b) := by
  show Str.mk _ = _
  simp
theorem mkS_toList (l : List Nat) : (mkS l).cps.toList = l := by simp

/-- room around a call -/
structure Rm (k : Nat) (A : Around) : Prop where
  handled : A.handled = none
  depth : A.depth + k < recursionLimit
  units : A.units + 16 * k + 16 < cLine
theorem Rm.less {k : Nat} {A : Around} (r : Rm (k + 1) A) : Rm k A := ⟨r.handled, by have := r.depth; omega, by have := r.units; omega⟩
theorem Rm.deeper {k : Nat} {A : Around} (r : Rm (k + 1) A) (env : Env) : Rm k (A.deeper env) :=
  ⟨r.handled, by have := r.depth; show A.depth + 1 + k < _; omega, by have := r.units; show A.units + 3 + 16 * k + 16 < _; omega⟩
theorem Rm.in1 {k : Nat} {A : Around} (r : Rm (k + 1) A) : Rm k A.in1 :=
  ⟨r.handled, by have := r.depth; show A.depth + k < _; omega, by have := r.units; show A.units + 1 + 16 * k + 16 < _; omega⟩
theorem Rm.room {k : Nat} {A : Around} (r : Rm k A) : A.depth < recursionLimit := by have := r.depth; omega
theorem Rm.line {k : Nat} {A : Around} (r : Rm k A) : A.units < cLine := by have := r.units; omega

section
variable {prog : Program} {w : World} {A : Around} {E : Value → Shared → Prop} {own : Mode} {names : List (Str × NameKind)} {s₀ s : Shared} {env : Env} {vars : List (Str × Value)} {nw : List (Addr × Obj)} {K : Frag}

theorem r_int {i : Int} {k : Nat} {pos : Pos} {Q : Value → Shared → Prop} (I : St own names s₀ env vars nw s) (h : ∀ t s', St own names s₀ env vars nw s' → Q (.int i t) s') :
    wpAny (model prog w) A (eval (.Constant (.int i) k pos) env) Q E s := wpAny_Constant_int (h _ _ (I.toks _))
theorem r_str {x : Str} {k : Nat} {pos : Pos} {Q : Value → Shared → Prop} (I : St own names s₀ env vars nw s) (h : ∀ t s', St own names s₀ env vars nw s' → Q (.str x t) s') :
    wpAny (model prog w) A (eval (.Constant (.str x) k pos) env) Q E s := wpAny_Constant_str (h _ _ (I.toks _))

theorem r_strL {x : Str} {l : List Nat} {k : Nat} {pos : Pos} {Q : Value → Shared → Prop} (I : St own names s₀ env vars nw s) (hl : x = mkS l) (h : ∀ t s', St own names s₀ env vars nw s' → Q (.str (mkS l) t) s') :
    wpAny (model prog w) A (eval (.Constant (.str x) k pos) env) Q E s := by subst hl; exact wpAny_Constant_str (h _ _ (I.toks _))

theorem r_global {x : Str} {pos : Pos} {v : Value} {Q : Value → Shared → Prop} (I : St own names s₀ env vars nw s) (G : Glb K s₀.heap) (e : nsIn K mainGlobals x = some (some v)) (h : Q v s)
    (hx : names.lookup x = some .globalImplicit := by rfl) (hd : (x == ("__debug__" : Str)) = false := by decide) :
    wpAny (model prog w) A (eval (.Name x pos) env) Q E s := by
  obtain ⟨mg, hn⟩ := G.g
  exact Calls.Name_function_global I.eo.kind ((I.eo.kindOf x).trans hx) (Calls.loadGlobal_global (I.eo.globals ▸ hn.keeps I.heap) (mg_of G.inK hn e) h) hd
theorem r_builtin {x : Str} {pos : Pos} {v : Value} {Q : Value → Shared → Prop} (I : St own names s₀ env vars nw s) (G : Glb K s₀.heap) (e : nsIn K mainGlobals x = some none) (hv : bootBuiltins x = some v) (h : Q v s)
    (hx : names.lookup x = some .globalImplicit := by rfl) (hn : x ≠ "__name__" := by decide) (hd : (x == ("__debug__" : Str)) = false := by decide) :
    wpAny (model prog w) A (eval (.Name x pos) env) Q E s := by
  obtain ⟨mg, hg'⟩ := G.g
  obtain ⟨mb, hb', hq⟩ := G.b
  exact Calls.Name_function_global I.eo.kind ((I.eo.kindOf x).trans hx) (Calls.loadGlobal_builtin (I.eo.globals ▸ hg'.keeps I.heap) (mg_none_of G.inK hg' e) (I.eo.builtins ▸ hb'.keeps I.heap) ((hq x hn).trans hv) h) hd

theorem r_add {a b : Int} {t u : Tok} {Q : Value → Shared → Prop} (I : St own names s₀ env vars nw s) (h : ∀ t s', St own names s₀ env vars nw s' → Q (.int (a + b) t) s') :
    wpAny (model prog w) A (binaryOp .Add (.int a t) (.int b u)) Q E s := wpAny_add_int (h _ _ (I.toks _))
theorem r_iadd {a b : Int} {t u : Tok} {Q : Value → Shared → Prop} (I : St own names s₀ env vars nw s) (h : ∀ t s', St own names s₀ env vars nw s' → Q (.int (a + b) t) s') :
    wpAny (model prog w) A (inplaceOp .Add (.int a t) (.int b u)) Q E s := wpAny_iadd_int (h _ _ (I.toks _))
theorem r_sub {a b : Int} {t u : Tok} {Q : Value → Shared → Prop} (I : St own names s₀ env vars nw s) (h : ∀ t s', St own names s₀ env vars nw s' → Q (.int (a - b) t) s') :
    wpAny (model prog w) A (binaryOp .Sub (.int a t) (.int b u)) Q E s := PyProof.Rows.sub_int (h _ _ (I.toks _))
theorem r_neg {a : Int} {t : Tok} {Q : Value → Shared → Prop} (I : St own names s₀ env vars nw s) (h : ∀ t s', St own names s₀ env vars nw s' → Q (.int (-a) t) s') :
    wpAny (model prog w) A (unaryOp .USub (.int a t)) Q E s := PyProof.Rows.neg_int (h _ _ (I.toks _))
theorem r_mod {a b : Int} {t u : Tok} {Q : Value → Shared → Prop} (I : St own names s₀ env vars nw s) (hb : 0 < b) (h : ∀ t s', St own names s₀ env vars nw s' → Q (.int (a % b) t) s') :
    wpAny (model prog w) A (binaryOp .Mod (.int a t) (.int b u)) Q E s := by
  refine PyProof.Rows.mod_int' (by omega) ?_
  rw [Int.fmod_eq_emod_of_nonneg a (by omega)]
  exact h _ _ (I.toks _)
theorem r_fdiv {a b : Int} {t u : Tok} {Q : Value → Shared → Prop} (I : St own names s₀ env vars nw s) (hb : 0 < b) (hs : b.natAbs < 1073741824) (h : ∀ t s', St own names s₀ env vars nw s' → Q (.int (a / b) t) s') :
    wpAny (model prog w) A (binaryOp .FloorDiv (.int a t) (.int b u)) Q E s := by
  refine PyProof.Rows.floordiv_int (by omega) ?_ (.inl (PyProof.noPylong_small hs))
  rw [Int.fdiv_eq_ediv_of_nonneg a (by omega)]
  exact h _ _ (I.toks _)

theorem r_addstr {a b : List Nat} {t u : Tok} {Q : Value → Shared → Prop} (I : St own names s₀ env vars nw s) (hsz : a.length + b.length ≤ sizeLine) (h : ∀ t s', St own names s₀ env vars nw s' → Q (.str (mkS (a ++ b)) t) s') :
    wpAny (model prog w) A (binaryOp .Add (.str (mkS a) t) (.str (mkS b) u)) Q E s := by
  refine P.add_str ?_
  rw [mkS_length, mkS_length]
  by_cases ha : a = []
  · subst ha; exact h u s I
  · have : (a.length == 0) = false := by cases a <;> simp_all
    rw [this]
    by_cases hb : b = []
    · subst hb
      have := h t s I
      rw [List.append_nil] at this
      exact this
    · have : (b.length == 0) = false := by cases b <;> simp_all
      rw [this]
      simp only [Bool.false_eq_true, if_false]
      rw [mkS_append]
      exact ⟨by rw [mkS_length, List.length_append]; exact hsz, h _ _ (I.toks _)⟩

theorem r_eqstr {a b : List Nat} {t u : Tok} {Q : Value → Shared → Prop} (h : Q (.bool (a == b)) s) : wpAny (model prog w) A (compareOp .Eq (.str (mkS a) t) (.str (mkS b) u)) Q E s := by
  refine P.eq_str ?_
  rw [mkS_toList, mkS_toList]; exact h
theorem r_nestr {a b : List Nat} {t u : Tok} {Q : Value → Shared → Prop} (h : Q (.bool (a != b)) s) : wpAny (model prog w) A (compareOp .NotEq (.str (mkS a) t) (.str (mkS b) u)) Q E s := by
  refine P.ne_str ?_
  rw [mkS_toList, mkS_toList]; exact h
theorem sizeLine_val : sizeLine = 16777216 := by decide +kernel
theorem r_lenstr {a : List Nat} {t : Tok} {Q : Value → Shared → Prop} (I : St own names s₀ env vars nw s) (hsz : a.length ≤ sizeLine) (h : ∀ t s', St own names s₀ env vars nw s' → Q (.int (a.length : Int) t) s') :
    wpAny (model prog w) A (call (.builtin "len") [.str (mkS a) t]) Q E s := by
  have h63 : ¬ ((mkS a).length : Int) ≥ 2 ^ 63 := by rw [mkS_length]; rw [sizeLine_val] at hsz; omega
  refine P.len_str h63 ?_
  rw [mkS_length]
  exact h _ _ (I.toks _)

theorem r_itemstr {value slice : Expr} {l : List Nat} {i : Int} {t u : Tok} {c : Nat} {Q : Value → Shared → Prop} (I : St own names s₀ env vars nw s) (h0 : 0 ≤ i) (hlt : i < 2 ^ 63) (hc : l[i.toNat]? = some c)
    (h : ∀ t s', St own names s₀ env vars nw s' → Q (.str (mkS [c]) t) s')
    (hs : subscripted slice false (.str (mkS l) t) (.int i u) = operate [.str (mkS l) t, .int i u] (getItem (.str (mkS l) t) (.int i u)) := by with_unfolding_all rfl)
    (hg : ∀ r, letTemporaryGo value (.str (mkS l) t) r = pure () := by intro _; with_unfolding_all rfl) :
    wpAny (model prog w) A (subscriptTail value slice (.str (mkS l) t) (.int i u)) Q E s := by
  refine subscriptTail_builtin (typeIs_str s _ _) F.slot_str_getitem.lookup (P.getItem_str (c := c) ?_ ?_ (h _ _ (I.toks _))) hs hg
  · simp only [Bool.or_eq_false_iff, decide_eq_false_iff_not]; omega
  · have hl : i.toNat < l.length := by
      rcases Nat.lt_or_ge i.toNat l.length with q | q
      · exact q
      · rw [List.getElem?_eq_none q] at hc; cases hc
    unfold seqIndex?
    simp only [mkS_length]
    have e : (if i < 0 then i + (l.length : Int) else i) = i := if_neg (by omega)
    rw [e]
    have : (decide (0 ≤ i) && decide (i < (l.length : Int))) = true := by simp only [Bool.and_eq_true, decide_eq_true_eq]; omega
    rw [if_pos this]
    simpa using hc
end

section
variable {prog : Program} {w : World} {A : Around} {E : Value → Shared → Prop} {s : Shared} {env : Env}

theorem r_while {test : Expr} {body : List Stmt} {pos : Pos} {Q : Flow → Shared → Prop} (J : Nat → Shared → Prop) (n : Nat) (h0 : J n s)
    (turn : ∀ n s, J n s → wpAny (model prog w) A (isTrue test env (eval test env)) (fun b s₂ =>
      if b = true then wpAny (model prog w) A (execs body env) (fun f s₃ => match f with
        | .next | .cont => ∃ m, m < n ∧ J m s₃
        | .brk => Q .next s₃
        | .ret v => Q (.ret v) s₃) (fun _ _ => False) s₂
      else Q .next s₂) (fun _ _ => False) s) :
    wpAny (model prog w) A (exec (.While test body [] pos) env) Q E s := by
  refine wpAny_While (codeAny_whileLoop J (fun n s hJ => ?_) n h0)
  refine wpAny_mono (turn n s hJ) (fun b s₂ h₂ => ?_) fun _ _ e => e.elim
  cases b with
  | false => exact wpAny_execs_nil h₂
  | true =>
    refine wpAny_mono h₂ (fun f s₃ h₃ => ?_) fun _ _ e => e.elim
    cases f <;> exact h₃
end

/-- the words in order of size -/
def word (al : List Nat) (n : Nat) : List Nat :=
  if h : n = 0 ∨ al.length = 0 then [] else word al ((n - 1) / al.length) ++ [al.getD ((n - 1) % al.length) 0]
termination_by n
decreasing_by
  have := Nat.div_le_self (n - 1) al.length
  omega
theorem word_zero (al : List Nat) : word al 0 = [] := by rw [word]; simp
theorem word_pos (al : List Nat) (n : Nat) (h : 0 < n) (ha : 0 < al.length) : word al n = word al ((n - 1) / al.length) ++ [al.getD ((n - 1) % al.length) 0] := by
  rw [word, dif_neg (by omega)]
theorem word_len (al : List Nat) (n : Nat) : (word al n).length ≤ n := by
  induction n using Nat.strongRecOn with
  | _ n ih =>
    rw [word]
    split
    · simp
    · rename_i h
      have h1 : (n - 1) / al.length ≤ n - 1 := Nat.div_le_self _ _
      have := ih ((n - 1) / al.length) (by omega)
      rw [List.length_append, List.length_singleton]
      omega
theorem word_mem (al : List Nat) (n : Nat) : ∀ c ∈ word al n, c ∈ al := by
  induction n using Nat.strongRecOn with
  | _ n ih =>
    rw [word]
    split
    · simp
    · rename_i h
      have h1 : (n - 1) / al.length ≤ n - 1 := Nat.div_le_self _ _
      intro c hc
      rcases List.mem_append.mp hc with q | q
      · exact ih _ (by omega) c q
      · have hlt : (n - 1) % al.length < al.length := Nat.mod_lt _ (by omega)
        simp only [List.mem_singleton] at q
        subst q
        rw [List.getD_eq_getElem?_getD, List.getElem?_eq_getElem hlt]
        simp

abbrev listObj (ys : Array Value) (k : Nat) : Obj := { cls := .type "list", data := .seq ys k }

/-- all but three objects stand -/
structure Upto (C D I : Addr) (s s' : Shared) : Prop where
  heap : ∀ b o, b ≠ C → b ≠ D → b ≠ I → s.heap.get? b = some o → s'.heap.get? b = some o
  os : s'.os = s.os
  bare : AllBare s.gens → AllBare s'.gens
theorem Upto.refl (C D I : Addr) (s : Shared) : Upto C D I s s := ⟨fun _ _ _ _ _ e => e, rfl, id⟩
theorem Upto.ext {C D I : Addr} {s s' s'' : Shared} (x : Upto C D I s s') (y : Ext s' s'') : Upto C D I s s'' :=
  ⟨fun b o h1 h2 h3 e => y.heap b o (x.heap b o h1 h2 h3 e), y.os.trans x.os, fun h => y.bare (x.bare h)⟩
theorem Upto.step {C D I : Addr} {s s' : Shared} (x : Upto C D I s s') {h' : Heap} {tk : Nat} (hk : ∀ b o, b ≠ C → b ≠ D → b ≠ I → s'.heap.get? b = some o → h'.get? b = some o) : Upto C D I s { s' with heap := h', toks := tk } :=
  ⟨fun b o h1 h2 h3 e => hk b o h1 h2 h3 (x.heap b o h1 h2 h3 e), x.os, x.bare⟩

theorem range_succ_filter (p : Nat → Bool) (i : Nat) : (List.range (i + 1)).filter p = (List.range i).filter p ++ (if p i then [i] else []) := by
  rw [List.range_succ, List.filter_append]
  cases h : p i <;> simp [h]

section
variable {prog : Program} {w : World} {A : Around} {E : Value → Shared → Prop} {R : Result → Shared → Prop} {s : Shared}

theorem compLoop_E {elt iter : Expr} {x : Str} {px : Pos} {ifs : List Expr} {scope : Scope} {pos : Pos} {I D : Addr} {fp : List Addr} {n : Nat} {P : Nat → Value → Prop} {S : Nat → Heap → Prop}
    {cenv : Env} {m : Str → Option Value} (W : Walks prog w A I fp [I] n P S) (p : Nat → Bool) (F : Nat → Value → Prop)
    (hx : cenv.kindOf x = some .local) (hp : (cenv.scope.kind == .class || (cenv.scope.kind == .module && cenv.locals != cenv.globals)) = false)
    (hDC : D ≠ cenv.locals) (hDf : D ∉ fp) (hCf : cenv.locals ∉ fp) (hIC : I ∈ fp)
    (hst : S 0 s.heap) (hacc : s.heap.PlainList D #[]) (hn : s.heap.Ns cenv.locals m)
    (htests : ∀ i v s₂ m₂, i < n → P i v → s₂.heap.Ns cenv.locals m₂ → m₂ x = some v → Upto cenv.locals D I s s₂ →
      wpAny (model prog w) A (forIn ifs true fun c r => if r = true then do let ok ← isTrue c cenv (eval c cenv); pure (ForInStep.yield ok) else pure (ForInStep.yield r))
        (fun ok s₃ => ok = p i ∧ Ext s₂ s₃) (fun _ _ => False) s₂)
    (helt : ∀ i v s₂ m₂, i < n → P i v → p i = true → s₂.heap.Ns cenv.locals m₂ → m₂ x = some v → Upto cenv.locals D I s s₂ →
      wpAny (model prog w) A (eval elt cenv) (fun y s₃ => F i y ∧ Ext s₂ s₃) (fun _ _ => False) s₂)
    (hR : ∀ s' m' ys, s'.heap.Ns cenv.locals m' → s'.heap.PlainList D ys → Paired F ((List.range n).filter p) ys.toList → Upto cenv.locals D I s s' → R (.ok .next) s')
    (hsz : n ≤ sizeLine) :
    codeAny (model prog w) A (.compLoop (.ListComp elt [⟨.Name x px, iter, ifs, 0⟩] scope pos) 0 (.ref I) (.ref D) cenv) R s := by
  have hDI : D ≠ I := fun h => hDf (h ▸ hIC)
  have hCI : cenv.locals ≠ I := fun h => hCf (h ▸ hIC)
  refine codeAny_compLoop_tests
    (fun k s' => ∃ i m' ys, i ≤ n ∧ k = n + 1 - i ∧ S i s'.heap ∧ s'.heap.PlainList D ys ∧ s'.heap.Ns cenv.locals m' ∧ Paired F ((List.range i).filter p) ys.toList ∧ Upto cenv.locals D I s s') ?_ (n + 1)
    ⟨0, m, #[], Nat.zero_le _, rfl, hst, hacc, hn, .nil, .refl _ _ _ _⟩
  rintro k s' ⟨i, m', ys, hi, rfl, hst', hacc', hn', hF, hu⟩
  by_cases hlt : i < n
  · refine W.item i s' _ _ hlt hst' fun v h₁ tk₁ hPv hst₁ hk₁ => ?_
    have hk₁' : ∀ b o, b ≠ I → s'.heap.get? b = some o → h₁.get? b = some o := fun b o hb e => hk₁ b o (by simpa using hb) e
    refine wpAny_assign_Name (wpAny_storeName_local hx (hn'.at' fun o e => hk₁' _ o hCI e) (fun h₂ hn₂ hs₂ => ?_) hp)
    have hu₂ : Upto cenv.locals D I s { s' with heap := h₂, toks := tk₁ + 1 } := hu.step fun b o hbC hbD hbI e => hs₂.extBut b o hbC (hk₁' b o hbI e)
    have hst₂ : S (i + 1) h₂ := W.frame _ _ _ hst₁ fun b hb o e => hs₂.extBut b o (fun h => hCf (h ▸ hb)) e
    refine wpAny_mono (htests i v _ _ hlt hPv hn₂ (by simp) hu₂) (fun ok s₃ h₃ => ?_) fun _ _ e => e.elim
    obtain ⟨rfl, x₃⟩ := h₃
    have hst₃ : S (i + 1) s₃.heap := W.frame _ _ _ hst₂ fun b _ o e => x₃.heap b o e
    have hacc₃ : s₃.heap.PlainList D ys := hacc'.at fun o e => x₃.heap _ o (hs₂.extBut _ o hDC (hk₁' _ o hDI e))
    have hn₃ := hn₂.keeps x₃.heap
    have hu₃ := hu₂.ext x₃
    cases hpv : p i with
    | false =>
      simp only [Bool.false_eq_true, if_false]
      refine ⟨n + 1 - (i + 1), by omega, i + 1, _, ys, hlt, rfl, hst₃, hacc₃, hn₃, ?_, hu₃⟩
      rw [range_succ_filter, hpv]; simpa using hF
    | true =>
      simp only [if_true]
      refine wpAny_mono (helt i v _ _ hlt hPv hpv hn₃ (by simp) hu₃) (fun y s₄ h₄ => ?_) fun _ _ e => e.elim
      obtain ⟨hFy, x₄⟩ := h₄
      have hys : ys.size ≤ sizeLine := by
        have e1 := hF.length
        have e2 : ((List.range i).filter p).length ≤ (List.range i).length := List.length_filter_le _ _
        have e3 : (List.range i).length = i := List.length_range
        have e4 : ys.toList.length = ys.size := by simp
        omega
      refine wpAny_list_append_plain (hsz := hys) (hacc₃.at fun o e => x₄.heap _ o e) fun h₅ hl₅ hs₅ => ?_
      refine ⟨n + 1 - (i + 1), by omega, i + 1, _, ys.push y, hlt, rfl, W.frame _ _ h₅ hst₃ fun b hb o e => hs₅.extBut b o (fun h => hDf (h ▸ hb)) (x₄.heap b o e), hl₅, (hn₃.keeps x₄.heap).sameBut hs₅ (Ne.symm hDC), ?_, (hu₃.ext x₄).step (tk := s₄.toks) fun b o hbC hbD hbI e => hs₅.extBut b o hbD e⟩
      rw [range_succ_filter, hpv]; simpa using Paired.snoc hF hFy
  · have hin : i = n := by omega
    subst hin
    refine W.done _ _ _ hst' fun h₁ tk₁ hk₁ => ?_
    have hk₁' : ∀ b o, b ≠ I → s'.heap.get? b = some o → h₁.get? b = some o := fun b o hb e => hk₁ b o (by simpa using hb) e
    exact hR _ m' ys (hn'.at' fun o e => hk₁' _ o hCI e) (hacc'.at fun o e => hk₁' _ o hDI e) hF (hu.step fun b o hbC hbD hbI e => hk₁' b o hbI e)

/-- the whole block behind the iterator -/
theorem compBlock_E {env : Env} {elt iter : Expr} {x : Str} {px : Pos} {ifs : List Expr} {scope : Scope} {cl : List (Str × Addr)} {pos : Pos} {s₁ s₂ : Shared} {I : Addr} {fp : List Addr} {n : Nat} {P : Nat → Value → Prop}
    {S : Nat → Heap → Prop} (W : Walks prog w A I fp [I] n P S) (hsz : n ≤ sizeLine) (p : Nat → Bool) (F : Nat → Value → Prop) {RR : Value → Addr → Result → Shared → Prop}
    (hcell : ∀ y ∈ scope.names, y.2 ≠ .cell) (hkind : scope.kind = .function) (hx : scope.names.lookup x = some .local) (hst : S 0 s₂.heap) (hfp : ∀ b ∈ fp, b < s₂.heap.objs.size) (hIf : I ∈ fp)
    (hx₁ : Ext s₁ s₂) (hI₁ : s₁.heap.get? I = none)
    (htests : ∀ C i v s₃ m₃, s₁.heap.get? C = none → i < n → P i v → s₃.heap.Ns C m₃ → m₃ x = some v → Ext s₁ s₃ →
      wpAny (model prog w) A (forIn ifs true fun c r => if r = true then do let ok ← isTrue c (compEnvC scope cl C env) (eval c (compEnvC scope cl C env)); pure (ForInStep.yield ok) else pure (ForInStep.yield r))
        (fun ok s₄ => ok = p i ∧ Ext s₃ s₄) (fun _ _ => False) s₃)
    (helt : ∀ C i v s₃ m₃, s₁.heap.get? C = none → i < n → P i v → p i = true → s₃.heap.Ns C m₃ → m₃ x = some v → Ext s₁ s₃ →
      wpAny (model prog w) A (eval elt (compEnvC scope cl C env)) (fun y s₄ => F i y ∧ Ext s₃ s₄) (fun _ _ => False) s₃)
    (hRR : ∀ D C s' m' ys, s₁.heap.get? D = none → s₁.heap.get? C = none → D ≠ C → s'.heap.Ns C m' → s'.heap.PlainList D ys → Paired F ((List.range n).filter p) ys.toList → Ext s₁ s' → RR (.ref D) C (.ok .next) s') :
    wpAny (model prog w) A (newList []) (fun acc s₃ => wpAny (model prog w) A (newFunctionEnv scope env.globals cl [] env.qual none .none (some env)) (fun cenv s₄ =>
      codeAny (model prog w) A (.compStart (.ListComp elt [⟨.Name x px, iter, ifs, 0⟩] scope pos) 0 (.ref I) acc { cenv with scope := relabel scope env }) (RR acc cenv.locals) s₄) E s₃) E s₂ := by
  refine wpAny_newObj_type (wpAny_newFunctionEnv hcell (by intro y hy; simp at hy) (fun h₁ hns₁ hsb₁ => ?_) hkind)
  dsimp only at hns₁ hsb₁ ⊢
  generalize hH2 : s₂.heap.push { cls := .type "list", dict := none, data := .seq ([] : List Value).toArray } = H2 at hns₁ hsb₁ ⊢
  have hC : H2.objs.size = s₂.heap.objs.size + 1 := by rw [← hH2, Heap.size_push]
  have hDC : s₂.heap.objs.size ≠ H2.objs.size := by rw [hC]; exact Nat.ne_of_lt (Nat.lt_succ_self _)
  have below : ∀ b o, s₁.heap.get? b = some o → b ≠ H2.objs.size ∧ b ≠ s₂.heap.objs.size ∧ b ≠ I := fun b o e => by
    have := Heap.lt_size (hx₁.heap b o e)
    exact ⟨by rw [hC]; exact Nat.ne_of_lt (Nat.lt_succ_of_lt this), Nat.ne_of_lt this, fun h => by subst h; rw [hI₁] at e; cases e⟩
  have hDf : s₂.heap.objs.size ∉ fp := fun hm => Nat.lt_irrefl _ (hfp _ hm)
  have hCf : H2.objs.size ∉ fp := fun hm => by have := hfp _ hm; rw [hC] at this; exact Nat.lt_irrefl _ (Nat.lt_of_succ_lt this)
  have old : ∀ b o, s₂.heap.get? b = some o → h₁.get? b = some o := fun b o e => hsb₁.extBut b o (by rw [hC]; exact Nat.ne_of_lt (Nat.lt_succ_of_lt (Heap.lt_size e))) (Heap.get?_push_of_some _ (hH2 ▸ Heap.get?_push_of_some _ e))
  have hacc : h₁.PlainList s₂.heap.objs.size #[] := ⟨_, hsb₁.extBut _ _ hDC (Heap.get?_push_of_some _ (hH2 ▸ Heap.get?_push_size _ rfl))⟩
  have hst₁ : S 0 h₁ := W.frame _ _ _ hst fun b _ o e => old b o e
  have fresh : ∀ a, s₂.heap.objs.size ≤ a → s₁.heap.get? a = none := fun a ha => by
    cases e : s₁.heap.get? a with
    | none => rfl
    | some o' => exact absurd (Heap.lt_size (hx₁.heap a o' e)) (Nat.not_lt.mpr ha)
  have hC₁ : s₁.heap.get? H2.objs.size = none := fresh _ (by rw [hC]; exact Nat.le_succ _)
  have up : ∀ {s₃ s₄ : Shared}, s₃ = { s₂ with heap := h₁, toks := s₂.toks + ([] : List (Str × Value)).length } → Upto H2.objs.size s₂.heap.objs.size I s₃ s₄ → Ext s₁ s₄ := by
    rintro s₃ s₄ rfl hu
    exact ⟨fun b o e => hu.heap b o (below b o e).1 (below b o e).2.1 (below b o e).2.2 (old b o (hx₁.heap b o e)), hu.os.trans hx₁.os, fun h => hu.bare (hx₁.bare h)⟩
  have loop : ∀ s₃ : Shared, s₃ = { s₂ with heap := h₁, toks := s₂.toks + ([] : List (Str × Value)).length } →
      codeAny (model prog w) A (.compLoop (.ListComp elt [⟨.Name x px, iter, ifs, 0⟩] scope pos) 0 (.ref I) (.ref s₂.heap.objs.size) (compEnvC scope cl H2.objs.size env))
        (RR (.ref s₂.heap.objs.size) H2.objs.size) s₃ := by
    rintro s₃ hs₃
    refine compLoop_E (hsz := hsz) (cenv := compEnvC scope cl H2.objs.size env) (m := fun _ => none) W p F (lookup_relabel_local hx) (by simp [compEnvC, relabel, hkind]) hDC hDf hCf hIf (by subst hs₃; exact hst₁) (by subst hs₃; exact hacc) (by subst hs₃; exact hns₁)
      (fun i v s₄ m₄ hi hv hn hm hu => htests _ i v s₄ m₄ hC₁ hi hv hn hm (up hs₃ hu))
      (fun i v s₄ m₄ hi hv hpv hn hm hu => helt _ i v s₄ m₄ hC₁ hi hv hpv hn hm (up hs₃ hu)) fun s' m' ys hn ha hF hu => ?_
    exact hRR _ _ s' m' ys (fresh _ (Nat.le_refl _)) hC₁ hDC hn ha hF (up hs₃ hu)
  exact codeAny_compStart_list (loop _ rfl) (W.self 0 _ _ _ hst₁ (loop _ rfl))
end

/-! the scope of a comprehension -/
def clos (cells : List (Str × Addr)) : List (Str × NameKind) → List (Str × Addr) → List (Str × Addr)
  | [], acc => acc
  | (n, k) :: r, acc => if k == .free then clos cells r ((n, (cells.lookup n).getD 0) :: acc) else clos cells r acc

theorem closureFor_go {env : Env} (f : Str × NameKind → List (Str × Addr) → Sem (ForInStep (List (Str × Addr))))
    (hf : ∀ n k acc, f (n, k) acc = if (k == .free) = true then (do let c ← cellOf env n; pure (.yield ((n, c) :: acc))) else pure (.yield acc)) :
    ∀ (names : List (Str × NameKind)) (acc : List (Str × Addr)), (∀ y ∈ names, y.2 = .free → (env.cells.lookup y.1).isSome = true) → forIn names acc f = pure (clos env.cells names acc)
  | [], acc, _ => by rw [List.forIn_nil]; rfl
  | (n, k) :: r, acc, h => by
    rw [List.forIn_cons, hf]
    unfold clos
    by_cases hk : (k == .free) = true
    · rw [if_pos hk, if_pos hk]
      have hk' : k = .free := by simpa using hk
      obtain ⟨c, hc⟩ := Option.isSome_iff_exists.mp (h (n, k) (.head _) hk')
      have : cellOf env n = pure c := by unfold cellOf; rw [hc]
      rw [this, hc]
      show forIn r _ f = _
      exact closureFor_go f hf r _ fun y hy => h y (.tail _ hy)
    · rw [if_neg hk, if_neg hk]
      show forIn r acc f = _
      exact closureFor_go f hf r _ fun y hy => h y (.tail _ hy)

theorem closureFor_eq {scope : Scope} {env : Env} (h : ∀ y ∈ scope.names, y.2 = .free → (env.cells.lookup y.1).isSome = true) : closureFor scope env = pure (clos env.cells scope.names []) := by
  unfold closureFor
  show (forIn scope.names [] _ >>= _) = _
  rw [closureFor_go _ (fun n k acc => ?_) scope.names [] h]
  · rfl
  · cases hk : (k == NameKind.free) <;> simp [hk]

theorem clos_lookup {cells : List (Str × Addr)} : ∀ (names : List (Str × NameKind)) (acc : List (Str × Addr)), (∀ n c, acc.lookup n = some c → cells.lookup n = some c) → (∀ y ∈ names, y.2 = .free → (cells.lookup y.1).isSome = true) →
    (∀ n c, (clos cells names acc).lookup n = some c → cells.lookup n = some c) ∧ (∀ n, ((n, .free) ∈ names ∨ (acc.lookup n).isSome = true) → ((clos cells names acc).lookup n).isSome = true)
  | [], acc, ha, _ => ⟨ha, fun n h => h.elim (fun q => nomatch q) id⟩
  | (m, k) :: r, acc, ha, h => by
    unfold clos
    by_cases hk : (k == .free) = true
    · rw [if_pos hk]
      have hk' : k = .free := by simpa using hk
      subst hk'
      obtain ⟨c, hc⟩ := Option.isSome_iff_exists.mp (h (m, .free) (.head _) rfl)
      have hc0 : cells.lookup m = some c := hc
      have ih := clos_lookup (cells := cells) r ((m, (cells.lookup m).getD 0) :: acc) (fun n c' e => by
        rw [List.lookup_cons] at e
        cases hb : n == m with
        | true => rw [hb] at e; cases e; rw [beq_iff_eq.mp hb, hc0]; rfl
        | false => rw [hb] at e; exact ha n c' e) fun y hy => h y (.tail _ hy)
      refine ⟨ih.1, fun n hn => ih.2 n ?_⟩
      rcases hn with q | q
      · rcases List.mem_cons.mp q with e | q
        · cases e; right; rw [List.lookup_cons]; simp
        · exact .inl q
      · right
        rw [List.lookup_cons]
        cases n == m <;> simp [q]
    · rw [if_neg hk]
      have ih := clos_lookup (cells := cells) r acc ha fun y hy => h y (.tail _ hy)
      refine ⟨ih.1, fun n hn => ih.2 n ?_⟩
      rcases hn with q | q
      · rcases List.mem_cons.mp q with e | q
        · cases e; exact absurd rfl hk
        · exact .inl q
      · exact .inr q

/-- the names of a comprehension as they read inside -/
def relN (cn names : List (Str × NameKind)) : List (Str × NameKind) := cn.map fun p => if (p.2 == .free && names.lookup p.1 == some .cell) = true then (p.1, .cell) else (p.1, p.2)

theorem relabel_names {scope : Scope} {env : Env} {names : List (Str × NameKind)} (V : EnvOk names env) : (relabel scope env).names = relN scope.names names := by
  unfold relabel relN
  refine List.map_congr_left fun p _ => ?_
  obtain ⟨n, k⟩ := p
  simp only [V.kind, V.kindOf n, beq_self_eq_true, Bool.and_true]

theorem relN_cell {cn names : List (Str × NameKind)} {x : Str} (h : (relN cn names).lookup x = some .cell) (hc : ∀ y ∈ cn, y.2 ≠ .cell) : (x, .free) ∈ cn ∧ names.lookup x = some .cell := by
  unfold relN at h
  induction cn with
  | nil => cases h
  | cons p r ih =>
    obtain ⟨n, k⟩ := p
    simp only [List.map_cons] at h
    by_cases hk : (k == .free && names.lookup n == some .cell) = true
    · rw [if_pos hk, List.lookup_cons] at h
      cases hb : x == n with
      | true =>
        have e := beq_iff_eq.mp hb
        subst e
        rw [Bool.and_eq_true] at hk
        have h1 : k = .free := by simpa using hk.1
        have h2 : names.lookup x = some .cell := by simpa using hk.2
        subst h1
        exact ⟨.head _, h2⟩
      | false =>
        rw [hb] at h
        obtain ⟨a, b⟩ := ih h fun y hy => hc y (.tail _ hy)
        exact ⟨.tail _ a, b⟩
    · rw [if_neg hk, List.lookup_cons] at h
      cases hb : x == n with
      | true =>
        rw [hb] at h; cases h
        exact absurd rfl (hc (n, .cell) (.head _))
      | false =>
        rw [hb] at h
        obtain ⟨a, b⟩ := ih h fun y hy => hc y (.tail _ hy)
        exact ⟨.tail _ a, b⟩

/-- the outer names that a comprehension sees -/
def capt (cn names : List (Str × NameKind)) (vars : List (Str × Value)) : List (Str × Value) := vars.filter fun p => decide ((relN cn names).lookup p.1 = some .cell)
theorem capt_get {cn names : List (Str × NameKind)} {x : Str} {v : Value} : ∀ {vars : List (Str × Value)}, (capt cn names vars).lookup x = some v → vars.lookup x = some v ∧ (relN cn names).lookup x = some .cell
  | [], h => by cases h
  | (y, u) :: r, h => by
    unfold capt at h
    rw [List.filter_cons] at h
    by_cases hp : decide ((relN cn names).lookup y = some .cell) = true
    · rw [if_pos hp, List.lookup_cons] at h
      rw [List.lookup_cons]
      cases hb : x == y with
      | true =>
        rw [hb] at h; cases h
        exact ⟨rfl, by rw [beq_iff_eq.mp hb]; exact of_decide_eq_true hp⟩
      | false =>
        rw [hb] at h
        exact capt_get (vars := r) h
    · rw [if_neg hp] at h
      have ih := capt_get (vars := r) h
      refine ⟨?_, ih.2⟩
      rw [List.lookup_cons]
      cases hb : x == y with
      | true =>
        exfalso
        apply hp
        rw [← beq_iff_eq.mp hb]
        exact decide_eq_true ih.2
      | false => exact ih.1

/-- a comprehension's scope, looked at -/
structure ScOk (scope : Scope) (names : List (Str × NameKind)) (x : Str) : Prop where
  kind : scope.kind = .function
  cell : ∀ y ∈ scope.names, y.2 ≠ .cell
  loc : ∀ y ∈ scope.names, y.2 = .local → scope.names.lookup y.1 = some .local
  hx : scope.names.lookup x = some .local
  free : ∀ y ∈ scope.names, y.2 = .free → names.lookup y.1 = some .cell
def scOk (scope : Scope) (names : List (Str × NameKind)) (x : Str) : Bool :=
  decide (scope.kind = .function) && (scope.names.all fun y => decide (y.2 ≠ .cell)) && (scope.names.all fun y => decide (y.2 = .local → scope.names.lookup y.1 = some .local)) && decide (scope.names.lookup x = some .local) &&
    (scope.names.all fun y => decide (y.2 = .free → names.lookup y.1 = some .cell))
theorem scOk_is {scope : Scope} {names : List (Str × NameKind)} {x : Str} (h : scOk scope names x = true) : ScOk scope names x := by
  unfold scOk at h
  simp only [Bool.and_eq_true] at h
  obtain ⟨⟨⟨⟨h1, h2⟩, h3⟩, h4⟩, h5⟩ := h
  exact ⟨of_decide_eq_true h1, fun y hy => of_decide_eq_true (List.all_eq_true.mp h2 y hy), fun y hy => of_decide_eq_true (List.all_eq_true.mp h3 y hy), of_decide_eq_true h4, fun y hy => of_decide_eq_true (List.all_eq_true.mp h5 y hy)⟩

theorem st_comp {own : Mode} {names : List (Str × NameKind)} {s₀ s₁ s₃ : Shared} {env : Env} {vars : List (Str × Value)} {nw : List (Addr × Obj)} {scope : Scope} {x : Str} {C : Addr} {m₃ : Str → Option Value} {v : Value}
    (I : St own names s₀ env vars nw s₁) (O : ScOk scope names x) (hC : s₁.heap.get? C = none) (hn : s₃.heap.Ns C m₃) (hv : m₃ x = some v) (e : Ext s₁ s₃) (hm : own.fix = none := by rfl) :
    St cp (relN scope.names names) s₁ (compEnvC scope (clos env.cells scope.names []) C env) ((x, v) :: capt scope.names names vars) [] s₃ := by
  have hfree : ∀ y ∈ scope.names, y.2 = .free → (env.cells.lookup y.1).isSome = true := fun y hy hk => I.eo.cells y.1 (O.free y hy hk)
  have L := clos_lookup (cells := env.cells) scope.names [] (fun _ _ q => nomatch q) hfree
  have V : EnvOk (relN scope.names names) (compEnvC scope (clos env.cells scope.names []) C env) :=
    ⟨O.kind, relabel_names I.eo, I.eo.globals, I.eo.builtins, fun y hy => L.2 y (.inl (relN_cell hy O.cell).1)⟩
  refine ⟨V, e.heap, e.os, e.bare (by have := I.bare; unfold GOk at this; rw [hm] at this; exact this), ⟨_, hn⟩, (fun q => by cases q), (fun q => by cases q), (fun q => by cases q), fun y u hy => ?_, (fun p hp => by cases hp)⟩
  rw [List.lookup_cons] at hy
  cases hb : y == x with
  | true =>
    rw [hb] at hy; cases hy
    rw [beq_iff_eq.mp hb]
    refine .inl ⟨?_, m₃, hn, hv⟩
    exact lookup_relabel_local O.hx
  | false =>
    rw [hb] at hy
    obtain ⟨h1, h2⟩ := capt_get hy
    obtain ⟨h3, h4⟩ := relN_cell h2 O.cell
    rcases I.get y u h1 with ⟨k, _⟩ | ⟨k, c, hc, hw⟩
    · rw [I.eo.kindOf y, h4] at k; cases k
    · refine .inr ⟨(V.kindOf y).trans h2, c, ?_, hw.keeps e.heap⟩
      obtain ⟨c', hc'⟩ := Option.isSome_iff_exists.mp (L.2 y (.inl h3))
      have := L.1 y c' hc'
      rw [hc] at this; cases this
      exact hc'

/-- what a loop can walk over: its `n` items are told by `P`; `deps` must stand meanwhile -/
def Src (prog : Program) (w : World) (A : Around) (xv : Value) (s₁ : Shared) (n : Nat) (P : Nat → Value → Prop) (deps : List (Addr × Obj)) : Prop :=
  ∀ (Q : Value → Shared → Prop) (E : Value → Shared → Prop), (∀ I fp (S : Nat → Heap → Prop) s₂, Walks prog w A I fp [I] n P S → S 0 s₂.heap → (∀ b ∈ fp, b < s₂.heap.objs.size) → I ∈ fp →
    (∀ b ∈ fp, b ≠ I → ∃ o, (b, o) ∈ deps) → Ext s₁ s₂ → s₁.heap.get? I = none → (∀ i h, S i h → ∃ io, h.get? I = some io ∧ io.cls ≠ .type "list") → Q (.ref I) s₂) →
    wpAny (model prog w) A (pyIter xv) Q E s₁

section
variable {prog : Program} {w : World} {A : Around} {s : Shared}

theorem none_of_size (s : Shared) : s.heap.get? s.heap.objs.size = none := by
  cases e : s.heap.get? s.heap.objs.size with
  | none => rfl
  | some o => exact absurd (Heap.lt_size e) (Nat.lt_irrefl _)

theorem src_list (hA : A.handled = none) {l : Addr} {ys : Array Value} {k : Nat} (hl : s.heap.get? l = some (listObj ys k)) :
    Src prog w A (.ref l) s ys.size (fun i v => ys[i]? = some v) [(l, listObj ys k)] := by
  intro Q E h
  have hL : s.heap.IsList l ys := ⟨_, hl, rfl, k, rfl⟩
  have hlt : l < s.heap.objs.size := Heap.lt_size hl
  have hlt' : @LT.lt Nat _ l s.heap.objs.size := hlt
  refine wpAny_pyIter_list hL (h _ [s.heap.objs.size, l] _ _ (Walks.list hA _ _ (Nat.ne_of_lt hlt) ys) ⟨⟨_, Heap.get?_push_size _ rfl, rfl, rfl⟩, hL.push _⟩ ?_ (.head _) ?_ (Ext.push _ _) (none_of_size s) ?_)
  · intro b hb
    show b < (s.heap.push _).objs.size
    rw [Heap.size_push]
    rcases List.mem_cons.mp hb with rfl | hb
    · exact Nat.lt_succ_self _
    · rcases List.mem_cons.mp hb with rfl | hb
      · exact Nat.lt_succ_of_lt hlt
      · cases hb
  · intro b hb hne
    rcases List.mem_cons.mp hb with rfl | hb
    · exact absurd rfl hne
    · rcases List.mem_cons.mp hb with rfl | hb
      · exact ⟨_, .head _⟩
      · cases hb
  · rintro i h' ⟨⟨o, ho, hc, _⟩, _⟩
    exact ⟨o, ho, by rw [hc]; decide⟩

theorem src_str (hA : A.handled = none) {l : List Nat} {t : Tok} : Src prog w A (.str (mkS l) t) s l.length (fun i v => ∃ c u, l[i]? = some c ∧ v = .str (mkS [c]) u) [] := by
  intro Q E h
  refine wpAny_pyIter_strU ?_
  have hfp : ∀ b ∈ [s.heap.objs.size], b < (s.heap.push { cls := .type (strIterType (mkS l)), data := .fields #[.str (mkS l) t, .int 0 0] }).objs.size := fun b hb => by
    rw [Heap.size_push]
    rcases List.mem_cons.mp hb with rfl | hb
    · exact Nat.lt_succ_self _
    · cases hb
  have hdep : ∀ b ∈ [s.heap.objs.size], b ≠ s.heap.objs.size → ∃ o, (b, o) ∈ ([] : List (Addr × Obj)) := fun b hb hne => by
    rcases List.mem_cons.mp hb with rfl | hb
    · exact absurd rfl hne
    · cases hb
  have conv : ∀ i v, SignAt (mkS l) i v ↔ ∃ c u, l[i]? = some c ∧ v = .str (mkS [c]) u := fun i v => by unfold SignAt; simp
  have hP : SignAt (mkS l) = fun i v => ∃ c u, l[i]? = some c ∧ v = .str (mkS [c]) u := by funext i v; exact propext (conv i v)
  have hsz : (mkS l).cps.size = l.length := by simp
  cases ha : (mkS l).cps.all (· < 128) with
  | true =>
    have W := Walks.strAscii (prog := prog) (w := w) hA s.heap.objs.size (mkS l) t
    rw [hP, hsz] at W
    refine h _ _ _ _ W ⟨_, Heap.get?_push_size _ rfl, by simp only [strIterType, ha]; rfl, rfl⟩ hfp (.head _) hdep (Ext.push _ _) (none_of_size s) ?_
    rintro i h' ⟨o, ho, hc, _⟩
    exact ⟨o, ho, by rw [hc]; decide⟩
  | false =>
    have W := Walks.strWide (prog := prog) (w := w) hA s.heap.objs.size (mkS l) t
    rw [hP, hsz] at W
    refine h _ _ _ _ W ⟨_, Heap.get?_push_size _ rfl, by simp only [strIterType, ha]; rfl, rfl⟩ hfp (.head _) hdep (Ext.push _ _) (none_of_size s) ?_
    rintro i h' ⟨o, ho, hc, _⟩
    exact ⟨o, ho, by rw [hc]; decide⟩

theorem src_range (hA : A.handled = none) {r : Addr} {a b : Int} {t u v : Tok} {n : Nat} (hr : IsRange s.heap r a b 1 t u v) (hn : (n : Int) = if a < b then b - a else 0) (ha : -(2 ^ 62) ≤ a) (ha' : a < 2 ^ 62) (hb : -(2 ^ 62) ≤ b) (hb' : b < 2 ^ 62) :
    Src prog w A (.ref r) s n (fun i v => ∃ t, v = .int (a + i) t) [] := by
  intro Q E h
  refine wpAny_pyIter_range hr (small_one ha ha' hb hb') ?_
  have W := Walks.range (prog := prog) (w := w) hA s.heap.objs.size a 1 n
  have hP : (fun (i : Nat) (v : Value) => ∃ t, v = .int (a + i * 1) t) = fun (i : Nat) (v : Value) => ∃ t, v = .int (a + i) t := by funext i v; rw [Int.mul_one]
  rw [hP] at W
  refine h _ _ _ _ W ?_ (fun b hb => ?_) (.head _) (fun b hb hne => ?_) (Ext.push _ _) (none_of_size s) ?_
  · rw [rangeSize_one, ← hn]
    have e1 : a + ((0 : Nat) : Int) * 1 = a := by omega
    have e2 : (n : Int) - ((0 : Nat) : Int) = n := by omega
    rw [e1, e2]
    exact Heap.get?_push_size _ rfl
  · show b < (s.heap.push _).objs.size
    rw [Heap.size_push]
    rcases List.mem_cons.mp hb with rfl | hb
    · exact Nat.lt_succ_self _
    · cases hb
  · rcases List.mem_cons.mp hb with rfl | hb
    · exact absurd rfl hne
    · cases hb
  · rintro i h' ho
    exact ⟨_, ho, by show Value.type "range_iterator" ≠ _; decide⟩
end

section
variable {prog : Program} {w : World} {A : Around} {E : Value → Shared → Prop} {own : Mode} {names : List (Str × NameKind)} {s₀ s : Shared} {env : Env} {vars : List (Str × Value)} {nw : List (Addr × Obj)}

/-- what a list comprehension asks behind its source -/
structure CompOn (prog : Program) (w : World) (A : Around) (names : List (Str × NameKind)) (vars : List (Str × Value)) (scope : Scope) (x : Str) (ifs : List Expr) (elt : Expr) (s₁ : Shared) (n : Nat) (P : Nat → Value → Prop) (p : Nat → Bool) (F : Nat → Value → Prop) : Prop where
  tests : ∀ cenv i v s₃, i < n → P i v → Ext s₁ s₃ → St cp (relN scope.names names) s₃ cenv ((x, v) :: capt scope.names names vars) [] s₃ →
    wpAny (model prog w) A (forIn ifs true fun c r => if r = true then do let ok ← isTrue c cenv (eval c cenv); pure (ForInStep.yield ok) else pure (ForInStep.yield r)) (fun ok s₄ => ok = p i ∧ Ext s₃ s₄) (fun _ _ => False) s₃
  elt : ∀ cenv i v s₃, i < n → P i v → p i = true → Ext s₁ s₃ → St cp (relN scope.names names) s₃ cenv ((x, v) :: capt scope.names names vars) [] s₃ →
    wpAny (model prog w) A (eval elt cenv) (fun y s₄ => F i y ∧ Ext s₃ s₄) (fun _ _ => False) s₃

theorem CompOn.plain {names : List (Str × NameKind)} {vars : List (Str × Value)} {scope : Scope} {x : Str} {elt : Expr} {s₁ : Shared} {n : Nat} {P : Nat → Value → Prop} {F : Nat → Value → Prop}
    (h : ∀ cenv i v s₃, i < n → P i v → Ext s₁ s₃ → St cp (relN scope.names names) s₃ cenv ((x, v) :: capt scope.names names vars) [] s₃ →
      wpAny (model prog w) A (eval elt cenv) (fun y s₄ => F i y ∧ Ext s₃ s₄) (fun _ _ => False) s₃) : CompOn prog w A names vars scope x [] elt s₁ n P (fun _ => true) F :=
  ⟨fun _ _ _ _ _ _ _ _ => wpAny_tests_nil ⟨rfl, Ext.refl _⟩, fun cenv i v s₃ hi hP _ e I => h cenv i v s₃ hi hP e I⟩
theorem CompOn.one {names : List (Str × NameKind)} {vars : List (Str × Value)} {scope : Scope} {x : Str} {c elt : Expr} {s₁ : Shared} {n : Nat} {P : Nat → Value → Prop} {p : Nat → Bool} {F : Nat → Value → Prop}
    (ht : ∀ cenv i v s₃, i < n → P i v → Ext s₁ s₃ → St cp (relN scope.names names) s₃ cenv ((x, v) :: capt scope.names names vars) [] s₃ →
      wpAny (model prog w) A (isTrue c cenv (eval c cenv)) (fun b s₄ => b = p i ∧ Ext s₃ s₄) (fun _ _ => False) s₃)
    (h : ∀ cenv i v s₃, i < n → P i v → p i = true → Ext s₁ s₃ → St cp (relN scope.names names) s₃ cenv ((x, v) :: capt scope.names names vars) [] s₃ →
      wpAny (model prog w) A (eval elt cenv) (fun y s₄ => F i y ∧ Ext s₃ s₄) (fun _ _ => False) s₃) : CompOn prog w A names vars scope x [c] elt s₁ n P p F :=
  ⟨fun cenv i v s₃ hi hP e I => wpAny_tests_one (ht cenv i v s₃ hi hP e I), h⟩

theorem st_list {s₁ s' : Shared} {D : Addr} {ys : Array Value} (I : St own names s₀ env vars nw s₁) (e : Ext s₁ s') (hD : s₁.heap.get? D = none) (hl : s'.heap.PlainList D ys) (hm : own.fix = none := by rfl) : ∃ k, St own names s₀ env vars ((D, listObj ys k) :: nw) s' :=
  let ⟨k, hk⟩ := hl
  ⟨k, I.more (I.ext e hm) hk hD⟩

theorem r_comp {elt iter : Expr} {x : Str} {px : Pos} {ifs : List Expr} {scope : Scope} {pos : Pos} {Q : Value → Shared → Prop} (I₀ : St own names s₀ env vars nw s) (hm : own.fix = none)
    (O : scOk scope names x = true) (hs : ∀ x, foldedSetIterable iter env x = pure x)
    (h : wpAny (model prog w) A (eval iter env) (fun xv s₁ => ∃ vars₁ nw₁ n P deps p F, St own names s₀ env vars₁ nw₁ s₁ ∧ Src prog w A xv s₁ n P deps ∧ n ≤ sizeLine ∧ CompOn prog w A names vars₁ scope x ifs elt s₁ n P p F ∧
      (∀ D ys k s', (∀ q ∈ nw₁, q.1 ≠ D) → St own names s₀ env vars₁ ((D, listObj ys k) :: nw₁) s' → Ext s₁ s' → Paired F ((List.range n).filter p) ys.toList → Q (.ref D) s')) E s) :
    wpAny (model prog w) A (eval (.ListComp elt [⟨.Name x px, iter, ifs, 0⟩] scope pos) env) Q E s := by
  have O' := scOk_is O
  have hfree : ∀ y ∈ scope.names, y.2 = .free → (env.cells.lookup y.1).isSome = true := fun y hy hk => I₀.eo.cells y.1 (O'.free y hy hk)
  rw [eval_ListComp]
  refine wpAny_comprehension_free (use := none) rfl hs (closureFor_eq hfree) O'.kind O'.loc (wpAny_mono h (fun xv s₁ h₁ => ?_) fun _ _ e => e)
  obtain ⟨vars₁, nw₁, n, P, deps, p, F, I, src, hsz, C, hQ⟩ := h₁
  refine src _ _ fun Ia fp S s₂ W hst hfp hIf _ hx₁ hI₁ _ => ?_
  refine compBlock_E (RR := fun acc C => compPost (model prog w) A E none Q acc C) (s₁ := s₁) W hsz p F O'.cell O'.kind O'.hx hst hfp hIf hx₁ hI₁
    (fun Ca i v s₃ m₃ hC hi hP hn hm' e => C.tests _ i v s₃ hi hP e (st_comp I O' hC hn hm' e hm).rebase)
    (fun Ca i v s₃ m₃ hC hi hP hp hn hm' e => C.elt _ i v s₃ hi hP hp e (st_comp I O' hC hn hm' e hm).rebase) ?_
  intro D Ca s' m' ys hD hC hDC hn hl hF e
  refine ⟨m', hn, fun h'' hs'' => ?_⟩
  have e' : Ext s₁ { s' with heap := h'' } := ⟨fun b o q => hs''.extBut b o (by rintro rfl; rw [hC] at q; cases q) (e.heap b o q), e.os, e.bare⟩
  obtain ⟨k, hk⟩ := st_list (D := D) (ys := ys) I e' hD (hl.extBut hs''.extBut hDC) hm
  exact hQ D ys k _ (fun q hq h => by rw [← h, (I.news q hq).1] at hD; cases hD) hk e' hF

theorem swaps_eq {elt : Expr} {gens : List Comprehension} {scope : Scope} {p pos : Pos} {y : Str} {line : Nat} (V : EnvOk names env) :
    swapsWith (.ListComp elt gens scope p) (some (.Name y pos)) line env = pure (decide (names.lookup y = some .local) && pos.line == p.line && !(scope.names.any fun (n, k) => n == y && (k == .local || k == .cell))) := by
  unfold swapsWith
  have hb : (env.blockKind == .function) = true := by unfold Env.blockKind; rw [V.kind]; rfl
  show (pure _ : Sem Bool) = _
  rw [hb, V.kindOf y, Bool.true_and]
  congr 3
  rw [Bool.eq_iff_iff]
  simp

/-- an object not among the kept ones -/
theorem St.store {x : Str} {v : Value} {h' : Heap} {tk : Nat} (I : St fn names s₀ env vars nw s) (hk : names.lookup x = some .local) {ml : Str → Option Value} (hn : s.heap.Ns env.locals ml)
    (hn' : h'.Ns env.locals (fun z => if z = x then some v else ml z)) (hs' : Heap.SameBut env.locals s.heap h') : St fn names s₀ env ((x, v) :: vars) nw { s with heap := h', toks := tk } := by
  have hk' : env.kindOf x = some .local := (I.eo.kindOf x).trans hk
  refine ⟨I.eo, fun b o e => hs'.extBut b o (I.freshL rfl b o e) (I.heap b o e), I.os, I.bare, ⟨_, hn'⟩, I.fresh, fun _ n c hc => ?_, I.apart, fun y u e => ?_, fun p hp => ?_⟩
  · obtain ⟨⟨w, hw⟩, l, k⟩ := I.cell rfl n c hc
    exact ⟨⟨w, hw.sameBut hs' l⟩, l, k⟩
  · rw [List.lookup_cons] at e
    cases hb : y == x with
    | true =>
      rw [hb] at e; cases e
      have := beq_iff_eq.mp hb
      subst this
      exact .inl ⟨hk', _, hn', by simp⟩
    | false =>
      rw [hb] at e
      have hne : y ≠ x := by simpa using hb
      rcases I.get y u e with ⟨k, ml', hn2, e2⟩ | ⟨k, c, hc, hw⟩
      · refine .inl ⟨k, _, hn', ?_⟩
        have : ml' = ml := by
          obtain ⟨o1, es1, ep1, ho1, hd1, _, hf1⟩ := hn
          obtain ⟨o2, es2, ep2, ho2, hd2, _, hf2⟩ := hn2
          rw [ho1] at ho2; cases ho2
          rw [hd1] at hd2; cases hd2
          funext z; rw [← hf1, ← hf2]
        subst this
        simp [hne, e2]
      · exact .inr ⟨k, c, hc, hw.sameBut hs' (I.cell rfl y c hc).2.1⟩
  · obtain ⟨a1, a2, a3, a4⟩ := I.news p hp
    exact ⟨hs'.extBut _ _ a3 a1, a2, a3, a4⟩

theorem r_assign_comp {elt iter : Expr} {x y : Str} {px py : Pos} {ifs : List Expr} {scope : Scope} {pos spos : Pos} {Q : Flow → Shared → Prop} (I₀ : St fn names s₀ env vars nw s)
    (O : scOk scope names x = true) (hs : ∀ x, foldedSetIterable iter env x = pure x)
    (hsw : (decide (names.lookup y = some .local) && py.line == pos.line && !(scope.names.any fun (n, k) => n == y && (k == .local || k == .cell))) = true)
    (h : wpAny (model prog w) A (eval iter env) (fun xv s₁ => ∃ vars₁ nw₁ n P deps p F, St fn names s₀ env vars₁ nw₁ s₁ ∧ Src prog w A xv s₁ n P deps ∧ n ≤ sizeLine ∧ CompOn prog w A names vars₁ scope x ifs elt s₁ n P p F ∧
      (∀ D ys k s', (∀ q ∈ nw₁, q.1 ≠ D) → St fn names s₀ env ((y, .ref D) :: vars₁) ((D, listObj ys k) :: nw₁) s' → Paired F ((List.range n).filter p) ys.toList → Q .next s')) E s) :
    wpAny (model prog w) A (exec (.Assign [.Name y py] (.ListComp elt [⟨.Name x px, iter, ifs, 0⟩] scope pos) spos) env) Q E s := by
  have O' := scOk_is O
  have hfree : ∀ y ∈ scope.names, y.2 = .free → (env.cells.lookup y.1).isSome = true := fun y hy hk => I₀.eo.cells y.1 (O'.free y hy hk)
  have hyl : names.lookup y = some .local := by
    simp only [Bool.and_eq_true] at hsw
    exact of_decide_eq_true hsw.1.1
  have hkl : (env.scope.kind == .class || (env.scope.kind == .module && env.locals != env.globals)) = false := by rw [I₀.eo.kind]; rfl
  rw [exec_Assign_Name_used _ _ _ _ ((swaps_eq I₀.eo).trans (congrArg pure hsw))]
  refine wpAny_bind (wpAny_standAt (wpAny_bind ?_))
  show wpAny _ A (do let _ ← comprehension (.ListComp elt [⟨.Name x px, iter, ifs, 0⟩] scope pos) scope env _ (newList []) false (eval iter env) (some (assign (.Name y py) env))) _ _ s
  refine wpAny_bind (wpAny_mono (wpAny_comprehension_free (use := some (assign (.Name y py) env)) (Q := fun _ s' => Q .next s') rfl hs (closureFor_eq hfree) O'.kind O'.loc
    (wpAny_mono h (fun xv s₁ h₁ => ?_) fun _ _ e => e)) (fun _ s' hq => wpAny_pure (wpAny_pure hq)) fun _ _ e => e)
  obtain ⟨vars₁, nw₁, n, P, deps, p, F, I, src, hsz, C, hQ⟩ := h₁
  refine src _ _ fun Ia fp S s₂ W hst hfp hIf _ hx₁ hI₁ _ => ?_
  refine compBlock_E (RR := fun acc C => compPost (model prog w) A E (some (assign (.Name y py) env)) (fun _ s' => Q .next s') acc C) (s₁ := s₁) W hsz p F O'.cell O'.kind O'.hx hst hfp hIf hx₁ hI₁
    (fun Ca i v s₃ m₃ hC hi hP hn hm e => C.tests _ i v s₃ hi hP e (st_comp I O' hC hn hm e).rebase)
    (fun Ca i v s₃ m₃ hC hi hP hp hn hm e => C.elt _ i v s₃ hi hP hp e (st_comp I O' hC hn hm e).rebase) ?_
  intro D Ca s' m' ys hD hC hDC hn hl hF e
  obtain ⟨k, hk⟩ := st_list (D := D) (ys := ys) I e hD hl
  obtain ⟨ml, hml⟩ := hk.ns
  have hLC : env.locals ≠ Ca := by
    obtain ⟨ml1, o1, _, _, ho1, _⟩ := I.ns
    rintro rfl; rw [hC] at ho1; cases ho1
  show wpAny _ A (assign (.Name y py) env (.ref D)) _ _ _
  refine wpAny_assign_Name (wpAny_storeName_local ((I₀.eo.kindOf y).trans hyl) hml (fun h₂ hn₂ hs₂ => ?_) hkl)
  refine ⟨m', hn.sameBut hs₂ (Ne.symm hLC), fun h₃ hs₃ => ?_⟩
  have J := hk.store (v := .ref D) (tk := s'.toks + 1) hyl hml hn₂ hs₂
  refine hQ D ys k _ (fun q hq h => by rw [← h, (I.news q hq).1] at hD; cases hD) ?_ hF
  -- the comprehension's own frame is let go
  have hCn : ∀ b o, s₁.heap.get? b = some o → b ≠ Ca := fun b o q h => by rw [h, hC] at q; cases q
  refine ⟨J.eo, fun b o q => hs₃.extBut b o (hCn b o (I.heap b o q)) (J.heap b o q), J.os, J.bare, let ⟨m1, q⟩ := J.ns; ⟨m1, q.sameBut hs₃ hLC⟩, J.fresh, fun ho n c hc => ?_, J.apart, fun z u q => ?_, fun p hp => ?_⟩
  · obtain ⟨⟨w1, hw⟩, l⟩ := J.cell ho n c hc
    obtain ⟨⟨w2, o2, ho2, _⟩, _⟩ := I.cell ho n c hc
    exact ⟨⟨w1, hw.sameBut hs₃ (hCn c o2 ho2)⟩, l⟩
  · rcases J.get z u q with ⟨k1, m1, q1, q2⟩ | ⟨k1, c, hc, hw⟩
    · exact .inl ⟨k1, m1, q1.sameBut hs₃ hLC, q2⟩
    · obtain ⟨⟨w2, o2, ho2, _⟩, _⟩ := I.cell rfl z c hc
      exact .inr ⟨k1, c, hc, hw.sameBut hs₃ (hCn c o2 ho2)⟩
  · obtain ⟨a1, a2⟩ := J.news p hp
    refine ⟨hs₃.extBut _ _ (fun h => ?_) a1, a2⟩
    rcases List.mem_cons.mp hp with rfl | hp
    · exact hDC h
    · exact hCn _ _ (I.news p hp).1 h

/-- a for loop: `V`, `N` what is known of the names and the ledger between the turns -/
theorem r_for2 {x : Str} {px pos : Pos} {iter : Expr} {body : List Stmt} {Q : Flow → Shared → Prop}
    (hx : isVar names x = true) (hs : ∀ x, foldedSetIterable iter env x = pure x)
    (h : wpAny (model prog w) A (eval iter env) (fun xv s₁ => ∃ (α : Type) (V : Nat → α → List (Str × Value)) (N : Nat → α → List (Addr × Obj)) (Φ : Nat → α → Prop) (n : Nat) (P : Nat → Value → Prop) (deps : List (Addr × Obj)) (p₀ : α), (∀ i p, Φ i p → ∀ q ∈ N i p, q.2.cls = .type "list") ∧ Src prog w A xv s₁ n P deps ∧ St fn names s₀ env (V 0 p₀) (N 0 p₀) s₁ ∧ Φ 0 p₀ ∧
      (∀ d ∈ deps, ∀ i p s, Φ i p → St fn names s₀ env (V i p) (N i p) s → s.heap.get? d.1 = some d.2) ∧
      (∀ i v p io s₂, i < n → P i v → Φ i p → io.2.cls ≠ .type "list" → St fn names s₀ env ((x, v) :: V i p) (io :: N i p) s₂ →
        wpAny (model prog w) A (execs body env) (fun f s₃ => match f with
          | .next | .cont => ∃ p', Φ (i + 1) p' ∧ St fn names s₀ env (V (i + 1) p') (io :: N (i + 1) p') s₃
          | .brk => Q .next s₃
          | .ret v => Q (.ret v) s₃) (fun _ _ => False) s₂) ∧
      (∀ p s₂, Φ n p → St fn names s₀ env (V n p) (N n p) s₂ → Q .next s₂)) E s) :
    wpAny (model prog w) A (exec (.For (.Name x px) iter body [] pos) env) Q E s := by
  refine wpAny_For (wpAny_mono h (fun xv s₁ h₁ => ?_) fun _ _ e => e) hs
  obtain ⟨α, V, N, Φ, n, P, deps, p₀, hN, src, I, h0, hdep, hbody, hend⟩ := h₁
  refine src _ _ fun Ia fp S s₂ W hst hfp hIf hfd hx₁ hI₁ hS => ?_
  have hLI : env.locals ≠ Ia := by
    obtain ⟨ml1, o1, _, _, ho1, _⟩ := I.ns
    rintro rfl; rw [hI₁] at ho1; cases ho1
  have hcI : ∀ m c, env.cells.lookup m = some c → c ≠ Ia := fun m c hc => by
    obtain ⟨⟨w2, o2, ho2, _⟩, _⟩ := I.cell rfl m c hc
    rintro rfl; rw [hI₁] at ho2; cases ho2
  have h0I : s₀.heap.get? Ia = none := by
    cases q : s₀.heap.get? Ia with
    | none => rfl
    | some o => rw [I.heap _ _ q] at hI₁; cases hI₁
  refine codeAny_forLoop (fun k s' => ∃ i p io, i ≤ n ∧ k = n - i + 1 ∧ Φ i p ∧ S i s'.heap ∧ io.1 = Ia ∧ St fn names s₀ env (V i p) (io :: N i p) s') ?_ (n + 1) ?_
  · rintro k s' ⟨i, p, io, hi, rfl, hΦ, hSt, hio, J⟩
    have hne : ∀ r ∈ N i p, r.1 ≠ Ia := fun r hr h => by
      obtain ⟨o1, ho1, hc1⟩ := hS _ _ hSt
      have a1 := (J.news r (.tail _ hr)).1
      rw [h, ho1] at a1
      cases a1
      exact hc1 (hN i p hΦ r hr)
    by_cases hlt : i < n
    · refine W.item i s' _ _ hlt hSt fun v h₁ tk₁ hPv hst₁ hk₁ => ?_
      have hk₁' : ∀ b o, b ≠ Ia → s'.heap.get? b = some o → h₁.get? b = some o := fun b o hb e => hk₁ b o (by simpa using hb) e
      obtain ⟨io', hio', hcls⟩ := hS _ _ hst₁
      have J₁ : St fn names s₀ env (V i p) ((Ia, io') :: N i p) { s' with heap := h₁, toks := tk₁ } := by
        refine ⟨J.eo, fun b o q => hk₁' b o (fun h => by rw [h, h0I] at q; cases q) (J.heap b o q), J.os, J.bare, let ⟨m1, q⟩ := J.ns; ⟨m1, q.at' fun o e => hk₁' _ o hLI e⟩, J.fresh, fun ho m c hc => ?_, J.apart, fun z u q => ?_, fun r hr => ?_⟩
        · obtain ⟨⟨w1, o2, ho2, hd2⟩, l⟩ := J.cell ho m c hc
          exact ⟨⟨w1, o2, hk₁' _ _ (hcI m c hc) ho2, hd2⟩, l⟩
        · rcases J.get z u q with ⟨k1, m1, q1, q2⟩ | ⟨k1, c, hc, o2, ho2, hd2⟩
          · exact .inl ⟨k1, m1, q1.at' fun o e => hk₁' _ o hLI e, q2⟩
          · exact .inr ⟨k1, c, hc, o2, hk₁' _ _ (hcI z c hc) ho2, hd2⟩
        · rcases List.mem_cons.mp hr with rfl | hr
          · exact ⟨hio', h0I, Ne.symm hLI, fun _ m c hc => Ne.symm (hcI m c hc)⟩
          · obtain ⟨a1, a2⟩ := J.news r (.tail _ hr)
            exact ⟨hk₁' _ _ (hne r hr) a1, a2⟩
      refine wpAny_assign_Name (r_store J₁ hx fun s₃ J₃ => ?_)
      refine wpAny_mono (hbody i v p (Ia, io') s₃ hlt hPv hΦ hcls J₃) (fun f s₄ h₄ => ?_) fun _ _ e => e.elim
      have again : (∃ p', Φ (i + 1) p' ∧ St fn names s₀ env (V (i + 1) p') ((Ia, io') :: N (i + 1) p') s₄) → ∃ m, m < n - i + 1 ∧ ∃ i p io, i ≤ n ∧ m = n - i + 1 ∧ Φ i p ∧ S i s₄.heap ∧ io.1 = Ia ∧ St fn names s₀ env (V i p) (io :: N i p) s₄ := by
        rintro ⟨p', hΦ', J₄⟩
        refine ⟨n - (i + 1) + 1, by omega, i + 1, p', (Ia, io'), hlt, rfl, hΦ', W.frame _ _ _ hst₁ fun b hb o e => ?_, rfl, J₄⟩
        by_cases hbI : b = Ia
        · subst hbI
          rw [hio'] at e; cases e
          exact (J₄.news (_, io') (.head _)).1
        · obtain ⟨o', ho'⟩ := hfd b hb hbI
          have e1 := hdep _ ho' i p _ hΦ (J₁.nwSub fun q hq => .tail _ hq)
          have e2 := hdep _ ho' (i + 1) p' _ hΦ' (J₄.nwSub fun q hq => .tail _ hq)
          have e3 : h₁.get? b = some o' := e1
          rw [e3] at e; cases e
          exact e2
      cases f with
      | next => exact again h₄
      | cont => exact again h₄
      | brk => exact h₄
      | ret v => exact h₄
    · have hin : i = n := by omega
      subst hin
      refine W.done _ _ _ hSt fun h₁ tk₁ hk₁ => ?_
      have hk₁' : ∀ b o, b ≠ Ia → s'.heap.get? b = some o → h₁.get? b = some o := fun b o hb e => hk₁ b o (by simpa using hb) e
      refine wpAny_execs_nil (hend p _ hΦ ?_)
      refine ⟨J.eo, fun b o q => hk₁' b o (fun h => by rw [h, h0I] at q; cases q) (J.heap b o q), J.os, J.bare, let ⟨m1, q⟩ := J.ns; ⟨m1, q.at' fun o e => hk₁' _ o hLI e⟩, J.fresh, fun ho m c hc => ?_, J.apart, fun z u q => ?_, fun r hr => ?_⟩
      · obtain ⟨⟨w1, o2, ho2, hd2⟩, l⟩ := J.cell ho m c hc
        exact ⟨⟨w1, o2, hk₁' _ _ (hcI m c hc) ho2, hd2⟩, l⟩
      · rcases J.get z u q with ⟨k1, m1, q1, q2⟩ | ⟨k1, c, hc, o2, ho2, hd2⟩
        · exact .inl ⟨k1, m1, q1.at' fun o e => hk₁' _ o hLI e, q2⟩
        · exact .inr ⟨k1, c, hc, o2, hk₁' _ _ (hcI z c hc) ho2, hd2⟩
      · obtain ⟨a1, a2⟩ := J.news r (.tail _ hr)
        exact ⟨hk₁' _ _ (hne r hr) a1, a2⟩
  · obtain ⟨io, hio, _⟩ := hS _ _ hst
    exact ⟨0, p₀, (Ia, io), Nat.zero_le _, rfl, h0, hst, rfl, I.more (I.ext hx₁) hio hI₁⟩

/-- a for loop: `V`, `N` what is known of the names and the ledger between the turns -/
theorem r_for {α : Type} (V : Nat → α → List (Str × Value)) (N : Nat → α → List (Addr × Obj)) (Φ : Nat → α → Prop) {x : Str} {px pos : Pos} {iter : Expr} {body : List Stmt} {Q : Flow → Shared → Prop}
    (hx : isVar names x = true) (hs : ∀ x, foldedSetIterable iter env x = pure x) (hN : ∀ i p, Φ i p → ∀ q ∈ N i p, q.2.cls = .type "list")
    (h : wpAny (model prog w) A (eval iter env) (fun xv s₁ => ∃ n P deps p₀, Src prog w A xv s₁ n P deps ∧ St fn names s₀ env (V 0 p₀) (N 0 p₀) s₁ ∧ Φ 0 p₀ ∧
      (∀ d ∈ deps, ∀ i p s, Φ i p → St fn names s₀ env (V i p) (N i p) s → s.heap.get? d.1 = some d.2) ∧
      (∀ i v p io s₂, i < n → P i v → Φ i p → io.2.cls ≠ .type "list" → St fn names s₀ env ((x, v) :: V i p) (io :: N i p) s₂ →
        wpAny (model prog w) A (execs body env) (fun f s₃ => match f with
          | .next | .cont => ∃ p', Φ (i + 1) p' ∧ St fn names s₀ env (V (i + 1) p') (io :: N (i + 1) p') s₃
          | .brk => Q .next s₃
          | .ret v => Q (.ret v) s₃) (fun _ _ => False) s₂) ∧
      (∀ p s₂, Φ n p → St fn names s₀ env (V n p) (N n p) s₂ → Q .next s₂)) E s) :
    wpAny (model prog w) A (exec (.For (.Name x px) iter body [] pos) env) Q E s := by
  refine r_for2 (s₀ := s₀) hx hs (wpAny_mono h (fun xv s₁ h₁ => ?_) fun _ _ e => e)
  obtain ⟨n, P, deps, p₀, h₂⟩ := h₁
  exact ⟨α, V, N, Φ, n, P, deps, p₀, hN, h₂⟩
end

/-- a generator that `list` may drain into the list at `S`: it gives `n` values told by `P`; `J i` holds behind `i` of them -/
structure GW (prog : Program) (w : World) (A : Around) (I : Addr) (n : Nat) (P : Nat → Value → Prop) (S : Addr) (J : Nat → Shared → Prop) (Fin : Shared → Prop) : Prop where
  gen : ∀ i s, J i s → ∃ g, s.heap.IsGen I g
  frame : ∀ i (s : Shared) h' tk, J i s → (∀ b o, b ≠ S → s.heap.get? b = some o → h'.get? b = some o) → (∃ o, h'.get? S = some o ∧ o.cls = .type "list") → J i { s with heap := h', toks := tk }
  item : ∀ i (s : Shared) (Q : Option Value → Shared → Prop) (E : Value → Shared → Prop), i < n → J i s →
    (∀ v s', P i v → J (i + 1) s' → (∀ o, s.heap.get? S = some o → s'.heap.get? S = some o) → Q (some v) s') → wpAny (model prog w) A (pyNext (.ref I)) Q E s
  done : ∀ (s : Shared) (Q : Option Value → Shared → Prop) (E : Value → Shared → Prop), J n s → (∀ s', Fin s' → (∀ o, s.heap.get? S = some o → s'.heap.get? S = some o) → Q none s') → wpAny (model prog w) A (pyNext (.ref I)) Q E s

section
variable {prog : Program} {w : World} {A : Around} {R : Result → Shared → Prop} {I S : Addr} {n : Nat} {P : Nat → Value → Prop} {J : Nat → Shared → Prop} {Fin : Shared → Prop}

theorem extend_loop_GW (W : GW prog w A.in1 I n P S J Fin) (hn : n ≤ sizeLine) (res : Value) :
    ∀ (k i : Nat) (s : Shared) (acc : Array Value) (c : Nat), n - i = k → i ≤ n → J i s → s.heap.get? S = some { cls := .type "list", dict := none, data := .seq acc c, slots := #[] } → ItemsOf P acc i →
    (∀ s' acc' c', Fin s' → s'.heap.get? S = some (listObj acc' c') → ItemsOf P acc' n → R (.ok (.ret res)) s') →
    codeAny (model prog w) A (.builtin "list.extend.loop" ⟨[.ref S, .ref I, res], []⟩) R s := by
  intro k
  induction k with
  | zero =>
    intro i s acc c hk hi hst hS hacc hR
    have hin : i = n := by omega
    subst hin
    refine codeAny_builtin F.entry_extend_loop ?_
    rw [Around.under_plainId F.plain_extend_loop _]
    show wpAny _ A.in1 (pyNext (.ref I) >>= _) _ _ s
    refine wpAny_bind (W.done s _ _ hst fun s' hm hk => ?_)
    exact wpAny_pure (hR s' acc c hm (hk _ hS) hacc)
  | succ k ih =>
    intro i s acc c hk hi hst hS hacc hR
    have hlt : i < n := by omega
    refine codeAny_builtin F.entry_extend_loop ?_
    rw [Around.under_plainId F.plain_extend_loop _]
    show wpAny _ A.in1 (pyNext (.ref I) >>= _) _ _ s
    refine wpAny_bind (W.item i s _ _ hlt hst fun v s' hP hst' hm => ?_)
    have hS' := hm _ hS
    show wpAny _ A.in1 (updateSeq S (·.push v) >>= _) _ _ _
    refine wpAny_bind ?_
    refine wpAny_updateSeq hS' rfl (wpAny_pure ⟨plainId_quiet F.plain_extend_loop _, ih (i + 1) _ (acc.push v) _ (by omega) hlt (W.frame _ s' _ s'.toks hst' (fun b o hb e => ?_) ⟨_, Heap.get?_update_self _ hS' rfl, rfl⟩) (Heap.get?_update_self _ hS' rfl) (hacc.push hP) hR⟩)
      (by rw [hacc.1]; omega) (by show (acc.push v).size ≤ sizeLine + 1; rw [Array.size_push, hacc.1]; omega)
    exact (Heap.get?_update_other _ _ (Ne.symm hb)).trans e

theorem extend_GW {s : Shared} (W : GW prog w A.in1 I n P S J Fin) (hn : n ≤ sizeLine) (res : Value) (c₀ : Nat) (hst : J 0 s) (hSI : S ≠ I)
    (hS : s.heap.get? S = some { cls := .type "list", data := .seq #[] c₀ })
    (hR : ∀ s' acc' c', Fin s' → s'.heap.get? S = some (listObj acc' c') → ItemsOf P acc' n → R (.ok (.ret res)) s') :
    wpAny (model prog w) A.in1 (Builtin.List.listExtendWith (.ref S) (.ref I) res)
      (fun fin s' => match fin with | .done f => R (.ok f) s' | .again c' => c'.quiet = true ∧ codeAny (model prog w) A c' R s') (fun e s' => R (.error e) s') s := by
  have hT : ∀ i s, J i s → s.TypeIs (.ref I) "generator" := fun i s j => let ⟨_, g⟩ := W.gen i s j; g.typeIs
  unfold Builtin.List.listExtendWith
  refine wpAny_bind (wpAny_typeOf (hT 0 _ hst) ?_)
  have h1 : Builtin.List.listSameRef (.ref S) (.ref I) = false := by simp [Builtin.List.listSameRef, hSI]
  have h2 : (Value.type "generator" == Value.type "list") = false := by decide
  have h3 : (Value.type "generator" == Value.type "tuple") = false := by decide
  simp only [h1, h2, h3, Bool.or_false, Bool.false_eq_true, if_false]
  obtain ⟨g, hg⟩ := W.gen 0 _ hst
  refine wpAny_bind (wpAny_pyIter_gen hg ?_)
  refine wpAny_bind (wpAny_holding ?_)
  unfold Builtin.List.listLengthHint
  refine wpAny_bind (wpAny_specialOf (hT 0 _ hst) F.gen_no_len ?_)
  show wpAny _ A.in1 (specialOf (Value.ref I) (Str.ofString "__length_hint__") >>= _) _ _ _
  refine wpAny_bind (wpAny_specialOf (hT 0 _ hst) F.gen_no_hint ?_)
  refine wpAny_pure ?_
  show wpAny _ A.in1 (rule "list.extend.makes-room" >>= fun _ => Builtin.List.listTouch (.ref S) >>= fun _ =>
    again (.builtin "list.extend.loop" ⟨[.ref S, .ref I, res], []⟩)) _ _ _
  refine wpAny_bind (wpAny_rule ?_)
  refine wpAny_bind ?_
  show wpAny _ A.in1 (updateSeq S (·.push .none) >>= fun _ => updateSeq S (·.pop)) _ _ _
  refine wpAny_bind (wpAny_updateSeq hS rfl ?_)
  have hS₂ := Heap.get?_update_self (Obj.mapSeq (·.push Value.none)) hS rfl
  refine wpAny_updateSeq (hz := by seq_fits) hS₂ rfl ?_
  have hS₃ := Heap.get?_update_self (Obj.mapSeq (·.pop)) hS₂ rfl
  have oth : ∀ b o, b ≠ S → s.heap.get? b = some o → ((s.heap.update S (Obj.mapSeq (·.push Value.none))).update S (Obj.mapSeq (·.pop))).get? b = some o :=
    fun b o hb e => (Heap.get?_update_other _ _ (Ne.symm hb)).trans ((Heap.get?_update_other _ _ (Ne.symm hb)).trans e)
  exact wpAny_pure ⟨plainId_quiet F.plain_extend_loop _, extend_loop_GW W hn _ n 0 _ _ _ rfl (Nat.zero_le _)
    (W.frame 0 s _ s.toks hst oth ⟨_, hS₃, rfl⟩) hS₃ (ItemsOf.nil P) hR⟩

theorem init_GW {s : Shared} (W : GW prog w A.in1 I n P S J Fin) (hn : n ≤ sizeLine) (hst : J 0 s) (hSI : S ≠ I)
    (hS : s.heap.get? S = some { cls := .type "list", data := .seq #[] })
    (hR : ∀ s' acc' c', Fin s' → s'.heap.get? S = some (listObj acc' c') → ItemsOf P acc' n → R (.ok (.ret .none)) s') :
    wpAny (model prog w) A.in1 (Builtin.«list.__init__» ⟨[.ref S, .ref I], []⟩)
      (fun fin s' => match fin with | .done f => R (.ok f) s' | .again c' => c'.quiet = true ∧ codeAny (model prog w) A c' R s') (fun e s' => R (.error e) s') s := by
  show wpAny _ A.in1 (do let old ← Builtin.List.listItems (.ref S); Builtin.List.listUpdate (.ref S) (fun _ => #[]); letGo old.toList.reverse; Builtin.List.listExtendWith (.ref S) (.ref I) .none) _ _ s
  refine wpAny_bind ?_
  unfold Builtin.List.listItems
  refine wpAny_bind (wpAny_seqItems hS rfl (wpAny_pure ?_))
  show wpAny _ A.in1 (updateSeq S (fun _ => #[]) >>= fun _ => letGo (#[] : Array Value).toList.reverse >>= fun _ => Builtin.List.listExtendWith (.ref S) (.ref I) .none) _ _ s
  refine wpAny_bind (wpAny_updateSeq hS rfl ?_)
  have hS₂ := Heap.get?_update_self (Obj.mapSeq (fun _ => (#[] : Array Value))) hS rfl
  have oth : ∀ b o, b ≠ S → s.heap.get? b = some o → (s.heap.update S (Obj.mapSeq (fun _ => (#[] : Array Value)))).get? b = some o :=
    fun b o hb e => (Heap.get?_update_other _ _ (Ne.symm hb)).trans e
  refine wpAny_bind (wpAny_letGo ?_)
  exact extend_GW W hn .none _ (W.frame 0 s _ s.toks hst oth ⟨_, hS₂, rfl⟩) hSI hS₂ hR

/-- `list(g)` of a generator -/
theorem list_GW {E : Value → Shared → Prop} {s : Shared} {Q : Value → Shared → Prop} (W : GW prog w A.in1.in1 I n P s.heap.objs.size J Fin) (hn : n ≤ sizeLine) (hI : I < s.heap.objs.size)
    (hst : ∀ h' tk, (∀ b o, s.heap.get? b = some o → h'.get? b = some o) → (∃ o, h'.get? s.heap.objs.size = some o ∧ o.cls = .type "list") → J 0 { s with heap := h', toks := tk })
    (hQ : ∀ s' acc' c', Fin s' → s'.heap.get? s.heap.objs.size = some (listObj acc' c') → ItemsOf P acc' n → Q (.ref s.heap.objs.size) s') :
    wpAny (model prog w) A (call (.type "list") [.ref I]) Q E s := by
  refine callType_codes (Q₁ := fun obj s₁ => obj = .ref s.heap.objs.size ∧ s₁ = { s with heap := s.heap.push { cls := .type "list", data := .seq #[] } }) F.called_list (F.typeCall_list_1 _) F.entry_list_init
    (code_list_new _ ⟨rfl, rfl⟩) fun obj s₁ h₁ => ?_
  obtain ⟨rfl, rfl⟩ := h₁
  have hS : (s.heap.push { cls := .type "list", data := .seq #[] }).get? s.heap.objs.size = some { cls := .type "list", data := .seq #[] } := Heap.get?_push_size _ rfl
  refine ⟨⟨_, hS, rfl⟩, F.args_list_init_2 _ _, init_GW W hn (hst _ s.toks (fun b o e => Heap.get?_push_of_some _ e) ⟨_, hS, rfl⟩) (Nat.ne_of_gt hI) hS fun s' acc' c' hm hS' hacc => ?_⟩
  exact ⟨rfl, hQ s' acc' c' hm hS' hacc⟩
end

/-! a generator function's own run -/

/-- the end of a run: all values are given, what stood before the call stands, the list that is filled too -/
def gEnd (h₀ : Heap) (o₀ : OsState) (I S : Addr) (go : Obj) : GenEnd := fun n s₀ r s₁ =>
  r = .ok (.ret .none) ∧ n = 0 ∧ (∀ b o, h₀.get? b = some o → s₁.heap.get? b = some o) ∧ s₁.os = o₀ ∧ s₁.gens = s₀.gens ∧ s₁.heap.get? I = some go ∧ ∀ o, s₀.heap.get? S = some o → s₁.heap.get? S = some o
/-- a yield -/
def gYield (h₀ : Heap) (o₀ : OsState) (I S : Addr) (go : Obj) (N : Nat) (P : Nat → Value → Prop) : Protocol := fun m s₀ v s kap =>
  P (N - 1 - m) v ∧ ((∀ b o, h₀.get? b = some o → s.heap.get? b = some o) ∧ s.os = o₀ ∧ s.gens = s₀.gens ∧ s.heap.get? I = some go ∧ ∀ o, s₀.heap.get? S = some o → s.heap.get? S = some o) ∧
    ∀ s'' : Shared, (∀ b o, b ≠ S → s.heap.get? b = some o → s''.heap.get? b = some o) → (∃ o, s''.heap.get? S = some o ∧ o.cls = .type "list") → s''.os = s.os → kap (.send .none) s''

/-- between two values -/
def gAt (prog : Program) (w : World) (A : Around) (h₀ : Heap) (o₀ : OsState) (I S : Addr) (go : Obj) (g : Nat) (N : Nat) (P : Nat → Value → Prop) (i : Nat) (s : Shared) : Prop :=
  (∀ b o, h₀.get? b = some o → s.heap.get? b = some o) ∧ s.os = o₀ ∧ s.heap.get? I = some go ∧ (∃ o, s.heap.get? S = some o ∧ o.cls = .type "list") ∧
  (∀ k y, k ≠ g → s.gens[k]? = some y → y.bare = true) ∧ ∃ gs, s.gens[g]? = some gs ∧
    ∀ s'' : Shared, (∀ b o, b ≠ S → s.heap.get? b = some o → s''.heap.get? b = some o) → (∃ o, s''.heap.get? S = some o ∧ o.cls = .type "list") → s''.os = s.os →
      gs.Goes (model prog w) A.in1 (gEnd h₀ o₀ I S go) (gYield h₀ o₀ I S go N P) (N - i) (.send .none) s''

abbrev genObj (g : Nat) (nm qn : Value) : Obj := { cls := .type "generator", data := .fields #[.int g 0, nm, qn] }

section
variable {prog : Program} {w : World} {A : Around}

theorem gens_other {s : Shared} {g k : Nat} {x : GenState} (h : k ≠ g) : (s.setGen g x).gens[k]? = s.gens[k]? := by
  have := (GenOnly.setGen s g x).2 k h
  exact this

theorem gw_of (hh : A.handled = none) (hroom : A.depth < recursionLimit) {h₀ : Heap} {o₀ : OsState} {I S : Addr} {g : Nat} {nm qn : Value} {N : Nat} {P : Nat → Value → Prop} (hl : h₀.NoLimit) (hS₀ : h₀.get? S = none) (hIS : I ≠ S) :
    GW prog w A I N P S (gAt prog w A h₀ o₀ I S (genObj g nm qn) g N P) (fun s' => (∀ b o, h₀.get? b = some o → s'.heap.get? b = some o) ∧ s'.os = o₀ ∧ AllBare s'.gens) where
  gen := fun i s j => ⟨g, _, nm, qn, j.2.2.1, rfl, rfl, rfl⟩
  frame := fun i s h' tk j hk hS => by
    obtain ⟨j1, j2, j3, j5, j6, gs, j7, j8⟩ := j
    refine ⟨fun b o q => hk b o (fun h => by rw [h, hS₀] at q; cases q) (j1 b o q), j2, hk _ _ hIS j3, hS, j6, gs, j7, fun s'' hk'' hS'' hos => j8 s'' (fun b o hb q => hk'' b o hb (hk b o hb q)) hS'' hos⟩
  item := fun i s Q E hi j hQ => by
    obtain ⟨j1, j2, j3, ⟨so, hso, hcl⟩, j6, gs, j7, j8⟩ := j
    obtain ⟨m, hm⟩ : ∃ m, N - i = m + 1 := ⟨N - i - 1, by omega⟩
    rw [hm] at j8
    refine wpAny_pyNext_gen hh (hl.keeps j1) hroom ⟨_, nm, qn, j3, rfl, rfl, rfl⟩ j7 (j8 (s.setGen g .running) (fun _ _ _ e => e) ⟨so, hso, hcl⟩ rfl) (fun v s₁ gs' hv => ?_) (fun s₁ hp h' hk => ?_)
    · obtain ⟨hP, ⟨k1, k2, k3, k4, k5⟩, hkap⟩ := hv
      have hidx : N - 1 - (m + 1 - 1) = i := by omega
      rw [hidx] at hP
      have hg₁ : s₁.gens[g]? = some .running := by rw [k3]; exact setGen_self j7
      refine hQ v _ hP ⟨k1, k2, k4, ⟨so, k5 so hso, hcl⟩, fun k y hne q => ?_, gs', setGen_self hg₁, fun s'' hk'' hS'' hos => ?_⟩ k5
      · rw [gens_other hne, k3, gens_other hne] at q
        exact j6 k y hne q
      · have e : N - (i + 1) = m := by omega
        rw [e]
        exact hkap s'' hk'' hS'' hos
    · exact absurd hp.1 (Nat.succ_ne_zero m)
  done := fun s Q E j hQ => by
    obtain ⟨j1, j2, j3, ⟨so, hso, hcl⟩, j6, gs, j7, j8⟩ := j
    rw [Nat.sub_self] at j8
    refine wpAny_pyNext_gen hh (hl.keeps j1) hroom ⟨_, nm, qn, j3, rfl, rfl, rfl⟩ j7 (j8 (s.setGen g .running) (fun _ _ _ e => e) ⟨so, hso, hcl⟩ rfl) (fun v s₁ gs' hv => ?_) (fun s₁ hp h' hk => ?_)
    · obtain ⟨hP, ⟨k1, k2, k3, k4, k5⟩, hkap⟩ := hv
      exact False.elim (hkap s₁ (fun _ _ _ e => e) ⟨so, k5 so hso, hcl⟩ rfl)
    · obtain ⟨_, k1, k2, k3, k4, k5⟩ := hp
      refine hQ _ ⟨fun b o q => hk b o (k1 b o q), k2, fun y hy => ?_⟩ fun o q => hk _ o (k5 o q)
      have hg₁ : s₁.gens[g]? = some .running := by rw [k3]; exact setGen_self j7
      obtain ⟨k, hk', rfl⟩ := Array.mem_iff_getElem.mp hy
      by_cases hne : k = g
      · subst hne
        have := setGen_self (gs := .running) (x := GenState.finished) hg₁
        rw [Array.getElem?_eq_getElem hk'] at this
        rw [Option.some.inj this]; rfl
      · have : (s₁.setGen g .finished).gens[k]? = some (s₁.setGen g .finished).gens[k] := Array.getElem?_eq_getElem hk'
        rw [gens_other hne, k3, gens_other hne] at this
        exact j6 k _ hne this

/-- what is known of a call of a generator function, for `list` -/
def Lists (prog : Program) (w : World) (A : Around) (s : Shared) (a : Addr) (s₃ : Shared) (N : Nat) (P : Nat → Value → Prop) : Prop :=
  ∀ (Q : Value → Shared → Prop) (E : Value → Shared → Prop), (∀ S acc k s', Ext s s' → s.heap.get? S = none → s'.heap.get? S = some (listObj acc k) → ItemsOf P acc N → Q (.ref S) s') →
    wpAny (model prog w) A (call (.type "list") [.ref a]) Q E s₃

theorem r_callgen {E : Value → Shared → Prop} {s : Shared} {f : Addr} {o : Obj} {fd : FuncData} {body : List Stmt} {args : List Value} {Q : Value → Shared → Prop} (names : List (Str × NameKind)) (binds : List (Str × Value)) (N : Nat) (P : Nat → Value → Prop) (hN : N ≤ sizeLine)
    (hA : A.handled = none) (hroom : A.depth < recursionLimit) (ho : s.heap.get? f = some o) (hd : o.data = .func fd) (hbody : fd.body = .stmts body) (hlim : s.heap.NoLimit) (hcd : s.heap.CodeRec fd.code fd.qualname)
    (hbind : bindArgs fd ⟨args, []⟩ = pure binds) (hcl : fd.closure = []) (hk : fd.scope.kind = .function) (hco : fd.scope.isCoroutine = false) (hgen : fd.scope.isGenerator = true) (hgl : fd.globals = mainGlobals) (hbi : fd.builtins = builtinsNs)
    (hnm : fd.scope.names = names) (hc : cellsOk names = true) (hb : (binds.all fun y => isVar names y.1) = true)
    (hg : AllBare s.gens)
    (hseg : ∀ env a S so nm qn g s'', a ≠ S → so.cls = .type "list" → env.scope.isCoroutine = false → St ⟨true, some s''.gens⟩ names s env binds.reverse [(S, so), (a, genObj g nm qn)] s'' →
      Seg (model prog w) A.in1.in1.in1 (gEnd s.heap s.os a S (genObj g nm qn)) (gYield s.heap s.os a S (genObj g nm qn) N P) N s'' (.func body env) ((model prog w).den (.func body env)) [] s'')
    (h : ∀ a s₃, Ext s s₃ → Lists prog w A s a s₃ N P → Q (.ref a) s₃) :
    wpAny (model prog w) A (call (.ref f) args) Q E s := by
  subst hnm
  refine wpAny_call (codeAny_call_generator hroom ho hd hco hgen hbody hcd ?_)
  rw [hbind]
  refine wpAny_pure ?_
  rw [hcl]
  have hcs : ∀ x, fd.scope.names.lookup x = some .cell → ((cellsFrom (s.heap.objs.size + 1) fd.scope.names []).lookup x).isSome = true := fun x hx => cellsFrom_some _ _ _ (.inl hx)
  refine wpAny_newFunctionEnv_cells hk (fun x hx => ?_) fun env he s₂ x => ?_
  · have := List.all_eq_true.mp hb _ hx
    rcases Bool.or_eq_true_iff.mp this with q | q
    · exact .inl (of_decide_eq_true q)
    · exact .inr ⟨of_decide_eq_true q, hcs _ (of_decide_eq_true q)⟩
  · subst he
    have I := st_of_inCall (fd := fd) (L := s.heap.objs.size) (a := f) hk hc hgl hbi hb hcs hg x
    obtain ⟨h₂, tk₂, rfl⟩ := x.toInCall.same
    refine ⟨hlim.keeps x.toInCall.keep, ?_⟩
    generalize hnm : Value.str fd.name _ = nm
    generalize hqn : Value.str fd.qualname _ = qn
    refine h _ _ ⟨fun b o e => Heap.get?_push_of_some _ (x.toInCall.keep b o e), rfl, fun hbr y hy => ?_⟩ ?_
    · rcases Array.mem_push.mp hy with q | rfl
      · exact hbr y q
      · rfl
    · intro Q' E' h'
      have hsz : (h₂.push (genObj s.gens.size nm qn)).objs.size = h₂.objs.size + 1 := Heap.size_push ..
      have none_of : ∀ b, h₂.objs.size ≤ b → h₂.get? b = none := fun b hb => by
        cases e : h₂.get? b with
        | none => rfl
        | some o => exact absurd (Heap.lt_size e) (Nat.not_lt.mpr hb)
      have none₀ : ∀ b, h₂.objs.size ≤ b → s.heap.get? b = none := fun b hb => by
        cases e : s.heap.get? b with
        | none => rfl
        | some o => have := none_of b hb; rw [x.toInCall.keep b o e] at this; cases this
      have hS₀ : s.heap.get? (h₂.push (genObj s.gens.size nm qn)).objs.size = none := none₀ _ (by rw [hsz]; exact Nat.le_succ _)
      have hIS : h₂.objs.size ≠ (h₂.push (genObj s.gens.size nm qn)).objs.size := by rw [hsz]; exact Nat.ne_of_lt (Nat.lt_succ_self _)
      refine list_GW (gw_of (A := A.in1.in1) (h₀ := s.heap) (o₀ := s.os) (g := s.gens.size) (nm := nm) (qn := qn) (N := N) (P := P) hA hroom hlim hS₀ hIS) hN (by rw [hsz]; exact Nat.lt_succ_self _) ?_ ?_
      · intro h₄ tk₄ hk₄ hS₄
        obtain ⟨so, hso, hsc⟩ := hS₄
        have hgo : h₄.get? h₂.objs.size = some (genObj s.gens.size nm qn) := hk₄ _ _ (Heap.get?_push_size _ rfl)
        refine ⟨fun b o e => hk₄ _ _ (Heap.get?_push_of_some _ (x.toInCall.keep b o e)), rfl, hgo, ⟨so, hso, hsc⟩, fun k y hne q => ?_, .fresh (.func body _), Array.getElem?_push_size .., fun s'' hk'' hS'' hos => ⟨rfl, ?_⟩⟩
        · have q' : (s.gens.push (.fresh (.func body (fEnv fd s.heap.objs.size f))))[k]? = some y := q
          rw [Array.getElem?_push, if_neg hne] at q'
          exact hg y (Array.mem_of_getElem? q')
        · obtain ⟨so₂, hso₂, hsc₂⟩ := hS''
          have up : ∀ b o, h₂.get? b = some o → s''.heap.get? b = some o := fun b o e => hk'' b o (fun hq => by
            have := Heap.lt_size e
            rw [hq, hsz] at this
            exact Nat.lt_irrefl _ (Nat.lt_of_succ_lt this)) (hk₄ _ _ (Heap.get?_push_of_some _ e))
          refine hseg _ _ _ so₂ nm qn s.gens.size s'' hIS hsc₂ hco ?_
          refine ⟨I.eo, fun b o e => up b o (I.heap b o e), hos, rfl, let ⟨m1, q⟩ := I.ns; ⟨m1, q.keeps up⟩, I.fresh, fun ho n c hc => ?_, I.apart, fun z u q => (I.get z u q).keeps up, fun p hp => ?_⟩
          · obtain ⟨⟨w1, hw⟩, l⟩ := I.cell ho n c hc
            exact ⟨⟨w1, hw.keeps up⟩, l⟩
          · have aux : ∀ b, h₂.objs.size ≤ b → s.heap.get? b = none ∧ b ≠ (fEnv fd s.heap.objs.size f).locals ∧ (True → ∀ n c, (fEnv fd s.heap.objs.size f).cells.lookup n = some c → b ≠ c) := fun b hb => by
              refine ⟨none₀ b hb, fun hq => ?_, fun _ n c hc hq => ?_⟩
              · have := I.locals_lt
                rw [hq] at hb
                exact Nat.lt_irrefl _ (Nat.lt_of_lt_of_le this hb)
              · obtain ⟨⟨w1, hw⟩, _⟩ := I.cell rfl n c hc
                rw [hq] at hb
                exact Nat.lt_irrefl _ (Nat.lt_of_lt_of_le hw.lt hb)
            rcases List.mem_cons.mp hp with rfl | hp
            · obtain ⟨a1, a2, a3⟩ := aux (h₂.push (genObj s.gens.size nm qn)).objs.size (by rw [hsz]; exact Nat.le_succ _)
              exact ⟨hso₂, a1, a2, fun _ => a3 trivial⟩
            · rcases List.mem_cons.mp hp with rfl | hp
              · obtain ⟨a1, a2, a3⟩ := aux _ (Nat.le_refl _)
                exact ⟨hk'' _ _ hIS hgo, a1, a2, fun _ => a3 trivial⟩
              · cases hp
      · rintro s' acc' c' ⟨k1, k2, k3⟩ hS' hacc
        exact h' _ acc' c' s' ⟨k1, k2, fun _ => k3⟩ hS₀ hS' hacc
end

/-! where a needle lies -/
def occ (x y : List Nat) (k : Nat) : Bool := decide (k + y.length ≤ x.length) && ((x.drop k).take y.length == y)
/-- how many places are still barred at place `k` -/
def sk (o : Nat → Bool) (m : Nat) : Nat → Nat
  | 0 => 0
  | k + 1 => if sk o m k = 0 ∧ o k = true then m - 1 else sk o m k - 1
/-- place `k` is told -/
def pk (o : Nat → Bool) (m k : Nat) : Bool := decide (sk o m k = 0) && o k
/-- the places that are told, from the left, none meeting the one before -/
def picks (x y : List Nat) : List Nat := if y = [] then [] else (List.range x.length).filter (pk (occ x y) y.length)

theorem pk_occ {o : Nat → Bool} {m k : Nat} (h : pk o m k = true) : o k = true := by unfold pk at h; simp at h; exact h.2
theorem pk_sk {o : Nat → Bool} {m k : Nat} (h : pk o m k = true) : sk o m k = 0 := by unfold pk at h; simp at h; exact h.1
theorem pk_of {o : Nat → Bool} {m k : Nat} (h : sk o m k = 0) (h' : o k = true) : pk o m k = true := by unfold pk; simp [h, h']
theorem sk_pick {o : Nat → Bool} {m k : Nat} (h : pk o m k = true) : ∀ j, j ≤ m - 1 → sk o m (k + 1 + j) = m - 1 - j
  | 0, _ => by
    show (if sk o m k = 0 ∧ o k = true then m - 1 else sk o m k - 1) = _
    rw [if_pos ⟨pk_sk h, pk_occ h⟩]; omega
  | j + 1, hj => by
    show (if sk o m (k + 1 + j) = 0 ∧ o (k + 1 + j) = true then m - 1 else sk o m (k + 1 + j) - 1) = _
    have ih := sk_pick h j (by omega)
    rw [if_neg (by rw [ih]; omega), ih]; omega
theorem sk_stay {o : Nat → Bool} {m i : Nat} (h : sk o m i = 0) : ∀ d, (∀ j, i ≤ j → j < i + d → o j = false) → sk o m (i + d) = 0
  | 0, _ => h
  | d + 1, hd => by
    show (if sk o m (i + d) = 0 ∧ o (i + d) = true then m - 1 else sk o m (i + d) - 1) = 0
    have ih := sk_stay h d fun j h1 h2 => hd j h1 (by omega)
    rw [if_neg (by rw [hd (i + d) (by omega) (by omega)]; simp), ih]
theorem sk_behind {o : Nat → Bool} {m k : Nat} (hm : 0 < m) (h : pk o m k = true) : sk o m (k + m) = 0 := by
  have := sk_pick h (m - 1) (Nat.le_refl _)
  have e : k + 1 + (m - 1) = k + m := by omega
  rw [e] at this; omega
theorem pk_barred {o : Nat → Bool} {m k j : Nat} (h : pk o m k = true) (h1 : k < j) (h2 : j < k + m) : pk o m j = false := by
  have := sk_pick h (j - k - 1) (by omega)
  have e : k + 1 + (j - k - 1) = j := by omega
  rw [e] at this
  unfold pk
  have : sk o m j ≠ 0 := by omega
  simp [this]

theorem filter_range'_nil {p : Nat → Bool} {i n : Nat} (h : ∀ j, i ≤ j → j < i + n → p j = false) : (List.range' i n).filter p = [] := by
  rw [List.filter_eq_nil_iff]
  intro j hj
  have := List.mem_range'_1.mp hj
  rw [h j this.1 this.2]; decide

/-- what is still to be told from place `i` on -/
def rest (x y : List Nat) (i : Nat) : List Nat := (List.range' i (x.length - i)).filter (pk (occ x y) y.length)
theorem picks_rest {x y : List Nat} (hy : y ≠ []) : picks x y = rest x y 0 := by
  unfold picks rest
  rw [if_neg hy, List.range_eq_range', Nat.sub_zero]
theorem occ_le {x y : List Nat} {k : Nat} (h : occ x y k = true) : k + y.length ≤ x.length := by unfold occ at h; simp at h; exact h.1
theorem rest_none {x y : List Nat} {i : Nat} (h : ∀ k, i ≤ k → occ x y k = false) : rest x y i = [] :=
  filter_range'_nil fun j h1 _ => by unfold pk; rw [h j h1, Bool.and_false]
theorem rest_some {x y : List Nat} {i k : Nat} (hy : y ≠ []) (hs : sk (occ x y) y.length i = 0) (hik : i ≤ k) (hk : occ x y k = true) (hn : ∀ j, i ≤ j → j < k → occ x y j = false) :
    rest x y i = k :: rest x y (k + y.length) ∧ sk (occ x y) y.length (k + y.length) = 0 := by
  have hm : 0 < y.length := by cases y with | nil => exact absurd rfl hy | cons _ _ => simp
  have hle := occ_le hk
  have hsk : sk (occ x y) y.length k = 0 := by
    have := sk_stay hs (k - i) fun j h1 h2 => hn j h1 (by omega)
    have e : i + (k - i) = k := by omega
    rw [e] at this; exact this
  have hpk : pk (occ x y) y.length k = true := pk_of hsk hk
  refine ⟨?_, sk_behind hm hpk⟩
  unfold rest
  have e1 : List.range' i (x.length - i) = List.range' i (k - i) ++ (List.range' k 1 ++ (List.range' (k + 1) (y.length - 1) ++ List.range' (k + y.length) (x.length - (k + y.length)))) := by
    rw [show k + y.length = k + 1 + (y.length - 1) by omega, List.range'_append_1]
    rw [List.range'_append_1]
    rw [show List.range' k (1 + (y.length - 1 + (x.length - (k + 1 + (y.length - 1))))) = List.range' (i + (k - i)) (1 + (y.length - 1 + (x.length - (k + 1 + (y.length - 1))))) by rw [show i + (k - i) = k by omega]]
    rw [List.range'_append_1]
    congr 1
    omega
  rw [e1, List.filter_append, List.filter_append, List.filter_append]
  rw [filter_range'_nil fun j h1 h2 => by unfold pk; rw [hn j h1 (by omega), Bool.and_false]]
  rw [filter_range'_nil (i := k + 1) fun j h1 h2 => pk_barred hpk (by omega) (by omega)]
  simp [List.range'_one, hpk]

theorem occ_at (x y : List Nat) (k : Nat) : occ x y k = true ↔ StrLaws.At (mkS x) (mkS y) (mkS x).length k := by
  unfold occ StrLaws.At
  rw [StrLaws.subAt_eq, mkS_length, mkS_length, mkS_toList, mkS_toList]
  simp

section
variable {prog : Program} {w : World} {A : Around} {E : Value → Shared → Prop} {own : Mode} {names : List (Str × NameKind)} {s₀ s : Shared} {env : Env} {vars : List (Str × Value)} {nw : List (Addr × Obj)} {K : Frag}

theorem r_find {x y : List Nat} {i : Int} {n : Nat} {t u v : Tok} {Q : Value → Shared → Prop} (I : St own names s₀ env vars nw s) (hi : i = (n : Int))
    (hnone : (∀ k, n ≤ k → occ x y k = false) → ∀ t s', St own names s₀ env vars nw s' → Q (.int (-1) t) s')
    (hsome : ∀ k, n ≤ k → occ x y k = true → (∀ j, n ≤ j → j < k → occ x y j = false) → ∀ t s', St own names s₀ env vars nw s' → Q (.int (k : Int) t) s') :
    wpAny (model prog w) A (call (.builtin "str.find") [.str (mkS x) t, .str (mkS y) u, .int i v]) Q E s := by
  subst hi
  refine SC.find3 ?_
  have hf : fromIndex (mkS x).length (n : Int) = n := by unfold fromIndex; rw [if_neg (by omega)]; omega
  unfold Txt.find3
  rw [hf]
  have hb : ∀ k, ¬ StrLaws.At (mkS x) (mkS y) (mkS x).length k → occ x y k = false := fun k h => by
    cases q : occ x y k with
    | false => rfl
    | true => exact absurd ((occ_at x y k).mp q) h
  rcases StrLaws.occ_head_from (mkS x) (mkS y) n 1 (Nat.le_refl 1) with ⟨h0, hn⟩ | ⟨k, r, h0, hlo, hk, hn⟩
  · rw [h0]
    exact hnone (fun k hk => hb k (hn k hk)) _ _ (I.toks _)
  · rw [h0]
    exact hsome k hlo ((occ_at x y k).mpr hk) (fun j h1 h2 => hb j (hn j h1 h2)) _ _ (I.toks _)

theorem inK_of (G : Glb K s₀.heap) (I : St own names s₀ env vars nw s) : K.In s.heap := fun a o e => I.heap a o (G.inK a o e)
theorem glb_of (G : Glb K s₀.heap) (I : St own names s₀ env vars nw s) : Glb K s.heap := G.keeps I.heap
theorem r_truthy_str {a : List Nat} {t : Tok} {Q : Bool → Shared → Prop} (I : St own names s₀ env vars nw s) (hsz : a.length ≤ sizeLine) (h : ∀ s', St own names s₀ env vars nw s' → Q (decide (a ≠ [])) s') :
    wpAny (model prog w) A (truthy (.str (mkS a) t)) Q E s := by
  have h63 : ¬ ((mkS a).length : Int) ≥ 2 ^ 63 := by rw [mkS_length]; rw [sizeLine_val] at hsz; omega
  refine P.truthy_str h63 ?_
  rw [mkS_length]
  have e : ((a.length : Int) != 0) = decide (a ≠ []) := by
    cases a with
    | nil => rfl
    | cons _ _ => rw [Bool.eq_iff_iff]; simp; omega
  rw [e]
  exact h _ (I.toks _)
end

theorem interactive_of {names : List (Str × NameKind)} {env : Env} (V : EnvOk names env) : interactive env = false := by unfold interactive; rw [V.kind]; rfl

/-! runs of a generator -/
section
variable {M : Model} {A : Around} {R : GenEnd} {Y : Protocol} {n : Nat} {s₀ : Shared} {c : Code} {fs : List Frame} {s : Shared} {env : Env}
  {K : Flow → Sem Fin} {H : Value → Sem Fin} {gd : Bool → Bool} {lv : List Value → List Value}

theorem seg_stmt {st : Stmt} (h : wpAny M (A.over c fs) (exec st env) (fun f s' => Seg M A R Y n s₀ c (K f) fs s') (fun _ _ => False) s) :
    Seg M A R Y n s₀ c ((exec st env).wrap K H gd lv) fs s := seg_wrap (wpAny_mono h (fun _ _ x => x) fun _ _ e => e.elim)

theorem seg_ind {t : Sem Fin} (J : Nat → Nat → Shared → Shared → Prop)
    (h : ∀ k n s₀ s, J k n s₀ s → (∀ k' n' s₀' s', k' < k → J k' n' s₀' s' → Seg M A R Y n' s₀' c t fs s') → Seg M A R Y n s₀ c t fs s) (k n : Nat) (s₀ s : Shared) (hJ : J k n s₀ s) : Seg M A R Y n s₀ c t fs s := by
  induction k using Nat.strongRecOn generalizing n s₀ s with
  | _ k ih => exact h k n s₀ s hJ fun k' n' s₀' s' hk hJ' => ih k' hk n' s₀' s' hJ'
end

section
variable {names : List (Str × NameKind)} {sb s₀ s s'' : Shared} {env : Env} {vars : List (Str × Value)} {nw : List (Addr × Obj)} {a S : Addr} {so go : Obj} {gs : Array GenState}

theorem gEnd_of (I : St ⟨true, some s₀.gens⟩ names sb env vars ((S, so) :: (a, go) :: nw) s) (hS : s₀.heap.get? S = some so) : gEnd sb.heap sb.os a S go 0 s₀ (.ok (.ret .none)) s :=
  ⟨rfl, rfl, I.heap, I.os, I.bare, (I.news _ (.tail _ (.head _))).1, fun o e => by rw [hS] at e; cases e; exact (I.news _ (.head _)).1⟩

/-- woken again: the list that is filled has grown, all else stands -/
theorem St.woken (I : St ⟨true, some gs⟩ names sb env vars ((S, so) :: nw) s) (hne : ∀ p ∈ nw, p.1 ≠ S) (hk : ∀ b o, b ≠ S → s.heap.get? b = some o → s''.heap.get? b = some o) (hos : s''.os = s.os) {so' : Obj} (hso : s''.heap.get? S = some so') :
    St ⟨true, some s''.gens⟩ names sb env vars ((S, so') :: nw) s'' := by
  obtain ⟨a1, a2, a3, a4⟩ := I.news (S, so) (.head _)
  have hSL : env.locals ≠ S := Ne.symm a3
  refine ⟨I.eo, fun b o e => hk b o (fun h => by rw [h, a2] at e; cases e) (I.heap b o e), hos.trans I.os, rfl, let ⟨m1, q⟩ := I.ns; ⟨m1, q.at' fun o e => hk _ o hSL e⟩, I.fresh, fun ho n c hc => ?_, I.apart, fun z u q => ?_, fun p hp => ?_⟩
  · obtain ⟨⟨w1, o2, ho2, hd2⟩, l⟩ := I.cell ho n c hc
    exact ⟨⟨w1, o2, hk _ _ (Ne.symm (a4 ho n c hc)) ho2, hd2⟩, l⟩
  · rcases I.get z u q with ⟨k1, m1, q1, q2⟩ | ⟨k1, c, hc, o2, ho2, hd2⟩
    · exact .inl ⟨k1, m1, q1.at' fun o e => hk _ o hSL e, q2⟩
    · exact .inr ⟨k1, c, hc, o2, hk _ _ (Ne.symm (a4 rfl z c hc)) ho2, hd2⟩
  · rcases List.mem_cons.mp hp with rfl | hp
    · exact ⟨hso, a2, a3, a4⟩
    · obtain ⟨b1, b2⟩ := I.news p (.tail _ hp)
      exact ⟨hk _ _ (hne p hp) b1, b2⟩

theorem gYield_of {N m : Nat} {P : Nat → Value → Prop} {v : Value} {kap : Resume → Shared → Prop} (I : St ⟨true, some s₀.gens⟩ names sb env vars ((S, so) :: (a, go) :: nw) s) (hS : s₀.heap.get? S = some so) (hne : ∀ p ∈ (a, go) :: nw, p.1 ≠ S) (hP : P (N - 1 - m) v)
    (hk : ∀ so' s'', so'.cls = .type "list" → s''.heap.get? S = some so' → St ⟨true, some s''.gens⟩ names sb env vars ((S, so') :: (a, go) :: nw) s'' → kap (.send .none) s'') :
    gYield sb.heap sb.os a S go N P m s₀ v s kap :=
  ⟨hP, ⟨I.heap, I.os, I.bare, (I.news _ (.tail _ (.head _))).1, fun o e => by rw [hS] at e; cases e; exact (I.news _ (.head _)).1⟩,
   fun s'' h1 ⟨so', h2, h3⟩ h4 => hk so' s'' h3 h2 (I.woken hne h1 h4 h2)⟩
end

/-- the value of an int, a text, a truth -/
def VI (k : Int) (v : Value) : Prop := ∃ t, v = .int k t
def VS (l : List Nat) (v : Value) : Prop := ∃ t, v = .str (mkS l) t

/-- an object of the frame's base or of its ledger -/
def Held (s₀ : Shared) (nw : List (Addr × Obj)) (l : Addr) (o : Obj) : Prop := s₀.heap.get? l = some o ∨ (l, o) ∈ nw
theorem Held.get {own names s₀ env vars nw s l o} (h : Held s₀ nw l o) (I : St own names s₀ env vars nw s) : s.heap.get? l = some o :=
  h.elim (fun e => I.heap _ _ e) fun m => (I.news _ m).1
theorem Held.tail {s₀ nw l o} (h : Held s₀ nw l o) {p : Addr × Obj} : Held s₀ (p :: nw) l o := h.imp id fun m => .tail _ m
theorem Held.head {s₀ nw l o} : Held s₀ ((l, o) :: nw) l o := .inr (.head _)

theorem paired_length {α β : Type} {F : α → β → Prop} {a : List α} {b : List β} (h : Paired F a b) : a.length = b.length := h.length
theorem paired_get {α β : Type} {F : α → β → Prop} : ∀ {a : List α} {b : List β}, Paired F a b → ∀ (i : Nat) (x : α), a[i]? = some x → ∃ y, b[i]? = some y ∧ F x y
  | _, _, .nil, i, x, h => by simp at h
  | _, _, .cons h t, 0, x, e => by simp at e; subst e; exact ⟨_, rfl, h⟩
  | _, _, .cons h t, i + 1, x, e => by simp at e ⊢; exact paired_get t i x e
theorem paired_get' {α β : Type} {F : α → β → Prop} : ∀ {a : List α} {b : List β}, Paired F a b → ∀ (i : Nat) (y : β), b[i]? = some y → ∃ x, a[i]? = some x ∧ F x y
  | _, _, .nil, i, x, h => by simp at h
  | _, _, .cons h t, 0, x, e => by simp at e; subst e; exact ⟨_, rfl, h⟩
  | _, _, .cons h t, i + 1, x, e => by simp at e ⊢; exact paired_get' t i x e
theorem paired_map {α β γ : Type} {F : γ → β → Prop} (f : α → γ) : ∀ {a : List α} {b : List β}, Paired (fun x y => F (f x) y) a b → Paired F (a.map f) b
  | _, _, .nil => .nil
  | _, _, .cons h t => .cons h (paired_map f t)
theorem paired_imp {α β : Type} {F G : α → β → Prop} : ∀ {a : List α} {b : List β}, (∀ x, x ∈ a → ∀ y, F x y → G x y) → Paired F a b → Paired G a b
  | _, _, _, .nil => .nil
  | _, _, h, .cons h1 t => .cons (h _ (.head _) _ h1) (paired_imp (fun x hx => h x (.tail _ hx)) t)
theorem paired_append {α β : Type} {F : α → β → Prop} : ∀ {a a' : List α} {b b' : List β}, Paired F a b → Paired F a' b' → Paired F (a ++ a') (b ++ b')
  | _, _, _, _, .nil, h => h
  | _, _, _, _, .cons h t, h' => .cons h (paired_append t h')
theorem paired_take {α β : Type} {F : α → β → Prop} : ∀ {a : List α} {b : List β} (n : Nat), Paired F a b → Paired F (a.take n) (b.take n)
  | _, _, 0, _ => by simpa using Paired.nil
  | _, _, n + 1, .nil => by simpa using Paired.nil
  | _, _, n + 1, .cons h t => by simpa using Paired.cons h (paired_take n t)
theorem paired_drop {α β : Type} {F : α → β → Prop} : ∀ {a : List α} {b : List β} (n : Nat), Paired F a b → Paired F (a.drop n) (b.drop n)
  | _, _, 0, h => by simpa using h
  | _, _, n + 1, .nil => by simpa using Paired.nil
  | _, _, n + 1, .cons h t => by simpa using paired_drop n t
theorem paired_of_get {α β : Type} {F : α → β → Prop} : ∀ {a : List α} {b : List β}, a.length = b.length → (∀ (i : Nat) x y, a[i]? = some x → b[i]? = some y → F x y) → Paired F a b
  | [], [], _, _ => .nil
  | [], _ :: _, h, _ => by simp at h
  | _ :: _, [], h, _ => by simp at h
  | x :: a, y :: b, h, g => .cons (g 0 x y rfl rfl) (paired_of_get (by simpa using h) fun i x y h1 h2 => g (i + 1) x y (by simpa using h1) (by simpa using h2))

theorem paired_range' {α β : Type} {F : Nat → β → Prop} {G : α → β → Prop} {p : Nat → Bool} {q : α → Bool} : ∀ {as : List α} {k : Nat} {b : List β}, Paired F ((List.range' k as.length).filter p) b →
    (∀ i a, as[i]? = some a → p (k + i) = q a) → (∀ i a y, as[i]? = some a → F (k + i) y → G a y) → Paired G (as.filter q) b
  | [], k, b, h, _, _ => by cases h; exact .nil
  | a :: r, k, b, h, hp, hF => by
    rw [List.length_cons, List.range'_succ, List.filter_cons] at h
    have h0 := hp 0 a rfl
    rw [Nat.add_zero] at h0
    have hp' : ∀ i x, r[i]? = some x → p (k + 1 + i) = q x := fun i x e => by have := hp (i + 1) x (by simpa using e); rw [← this]; congr 1; omega
    have hF' : ∀ i x y, r[i]? = some x → F (k + 1 + i) y → G x y := fun i x y e hy => hF (i + 1) x y (by simpa using e) (by rw [show k + (i + 1) = k + 1 + i by omega]; exact hy)
    rw [List.filter_cons]
    cases hq : q a with
    | false =>
      rw [h0, hq] at h
      simp only [Bool.false_eq_true, if_false] at h ⊢
      exact paired_range' h hp' hF'
    | true =>
      rw [h0, hq] at h
      simp only [if_true] at h ⊢
      cases h with
      | cons h1 t => exact .cons (hF 0 a _ rfl (by simpa using h1)) (paired_range' t hp' hF')
/-- what a comprehension over a list has made -/
theorem paired_range {α β : Type} {F : Nat → β → Prop} {G : α → β → Prop} {as : List α} {n : Nat} {p : Nat → Bool} {q : α → Bool} {b : List β} (h : Paired F ((List.range n).filter p) b) (hn : as.length = n)
    (hp : ∀ i a, as[i]? = some a → p i = q a) (hF : ∀ i a y, as[i]? = some a → F i y → G a y) : Paired G (as.filter q) b := by
  subst hn
  rw [List.range_eq_range'] at h
  exact paired_range' h (fun i a e => by rw [Nat.zero_add]; exact hp i a e) fun i a y e hy => hF i a y e (by rw [Nat.zero_add] at hy; exact hy)
theorem paired_range0 {α β : Type} {F : Nat → β → Prop} {G : α → β → Prop} {as : List α} {n : Nat} {b : List β} (h : Paired F ((List.range n).filter fun _ => true) b) (hn : as.length = n)
    (hF : ∀ i a y, as[i]? = some a → F i y → G a y) : Paired G as b := by
  have := paired_range (q := fun _ => true) h hn (fun _ _ _ => rfl) hF
  rw [List.filter_eq_self.mpr fun _ _ => rfl] at this
  exact this

theorem isList_of {h : Heap} {l : Addr} {ys : Array Value} {k : Nat} (e : h.get? l = some (listObj ys k)) : h.IsList l ys := ⟨_, e, rfl, k, rfl⟩

section
variable {prog : Program} {w : World} {A : Around} {E : Value → Shared → Prop} {own : Mode} {names : List (Str × NameKind)} {s₀ s : Shared} {env : Env} {vars : List (Str × Value)} {nw : List (Addr × Obj)}

theorem St.fresh_ne {own : Mode} {names : List (Str × NameKind)} {s₀ s : Shared} {env : Env} {vars : List (Str × Value)} {nw : List (Addr × Obj)} (I : St own names s₀ env vars nw s) : ∀ q ∈ nw, q.1 ≠ s.heap.objs.size := fun q hq h => by
  have := Heap.lt_size (I.news q hq).1
  rw [h] at this
  exact Nat.lt_irrefl _ this

theorem r_lenlist {l : Addr} {ys : Array Value} {k : Nat} {Q : Value → Shared → Prop} (I : St own names s₀ env vars nw s) (hl : Held s₀ nw l (listObj ys k)) (hsz : ys.size ≤ sizeLine) (h : ∀ t s', St own names s₀ env vars nw s' → Q (.int (ys.size : Int) t) s') :
    wpAny (model prog w) A (call (.builtin "len") [.ref l]) Q E s :=
  len_list (isList_of (hl.get I)) (by rw [sizeLine_val] at hsz; omega) (h _ _ (I.toks _))

theorem r_newlist {vs : List Value} {Q : Value → Shared → Prop} (I : St own names s₀ env vars nw s) (hsz : vs.length ≤ sizeLine) (h : ∀ D s', (∀ q ∈ nw, q.1 ≠ D) → St own names s₀ env vars ((D, listObj vs.toArray 0) :: nw) s' → Q (.ref D) s') :
    wpAny (model prog w) A (newList vs) Q E s :=
  wpAny_newObj_type (h _ _ I.fresh_ne (I.push _ rfl)) (by show vs.toArray.size ≤ sizeLine; rw [List.size_toArray]; exact hsz)

theorem r_addlist {l b : Addr} {xs ys : Array Value} {k k' : Nat} {Q : Value → Shared → Prop} (I : St own names s₀ env vars nw s) (hl : Held s₀ nw l (listObj xs k)) (hb : Held s₀ nw b (listObj ys k')) (hsz : xs.size + ys.size ≤ sizeLine)
    (h : ∀ D s', (∀ q ∈ nw, q.1 ≠ D) → St own names s₀ env vars ((D, listObj (xs ++ ys) 0) :: nw) s' → Q (.ref D) s') : wpAny (model prog w) A (binaryOp .Add (.ref l) (.ref b)) Q E s :=
  P.add_list (hl.get I) (hb.get I) (h _ _ I.fresh_ne (I.push _ rfl)) hsz

theorem r_itemlist {value slice : Expr} {l : Addr} {ys : Array Value} {k : Nat} {i : Int} {u : Tok} {v : Value} {Q : Value → Shared → Prop} (I : St own names s₀ env vars nw s) (hl : Held s₀ nw l (listObj ys k)) (h0 : 0 ≤ i) (hlt : i < 2 ^ 63) (hv : ys[i.toNat]? = some v) (h : Q v s)
    (hs : subscripted slice false (.ref l) (.int i u) = operate [.ref l, .int i u] (getItem (.ref l) (.int i u)) := by with_unfolding_all rfl) (hg : ∀ r, letTemporaryGo value (.ref l) r = pure () := by intro _; with_unfolding_all rfl) :
    wpAny (model prog w) A (subscriptTail value slice (.ref l) (.int i u)) Q E s := item_list (isList_of (hl.get I)) h0 hlt hv h hs hg

theorem r_itemlist_neg {value slice : Expr} {l : Addr} {ys : Array Value} {k : Nat} {i : Int} {u : Tok} {v : Value} {Q : Value → Shared → Prop} (I : St own names s₀ env vars nw s) (hl : Held s₀ nw l (listObj ys k)) (h0 : i < 0) (hlo : -(ys.size : Int) ≤ i) (hsz : ys.size ≤ sizeLine) (hv : ys[(i + ys.size).toNat]? = some v) (h : Q v s)
    (hs : subscripted slice false (.ref l) (.int i u) = operate [.ref l, .int i u] (getItem (.ref l) (.int i u)) := by with_unfolding_all rfl) (hg : ∀ r, letTemporaryGo value (.ref l) r = pure () := by intro _; with_unfolding_all rfl) :
    wpAny (model prog w) A (subscriptTail value slice (.ref l) (.int i u)) Q E s :=
  subscriptTail_builtin (isList_of (hl.get I)).typeIs slot_list_getitem.lookup (wpAny_getItem_list_neg (isList_of (hl.get I)) h0 hlo (by rw [sizeLine_val] at hsz; omega) hv h) hs hg

theorem r_slicelist {value : Expr} {lower upper : Option Expr} {p pos : Pos} {Q : Value → Shared → Prop}
    (h : wpAny (model prog w) A (eval value env) (fun o s₁ => wpAny (model prog w) A (evalPart lower env) (fun vl s₂ => wpAny (model prog w) A (evalPart upper env) (fun vu s₃ =>
      ∃ l ys k lo hi vars nw, o = .ref l ∧ St own names s₀ env vars nw s₃ ∧ Held s₀ nw l (listObj ys k) ∧ ys.size ≤ sizeLine ∧ IsPart vl lo ∧ IsPart vu hi ∧
        ∀ D s', (∀ q ∈ nw, q.1 ≠ D) → St own names s₀ env vars ((D, listObj (slicePick ys lo hi none) 0) :: nw) s' → Q (.ref D) s') E s₂) E s₁) E s)
    (ht : ∀ o r, letTemporaryGo value o r = pure () := by intro _ _; rfl) :
    wpAny (model prog w) A (eval (.Subscript value (.Slice lower upper none p) pos) env) Q E s := by
  refine wpAny_Subscript_list_slice (wpAny_mono h (fun o s₁ h₁ => wpAny_mono h₁ (fun vl s₂ h₂ => wpAny_mono h₂ (fun vu s₃ h₃ => ?_) fun _ _ e => e) fun _ _ e => e) fun _ _ e => e) ht
  obtain ⟨l, ys, k, lo, hi, vars, nw, rfl, I, hl, hsz, pl, pu, hQ⟩ := h₃
  refine ⟨l, ys, lo, hi, rfl, isList_of (hl.get I), hsz, pl, pu, ?_⟩
  have J := I.push { cls := .type "slice", data := .fields #[vl, vu, .none] } rfl
  have J2 := (J.push { cls := .type "list", data := .seq (slicePick ys lo hi none) } rfl)
  have e : ({ s₃ with heap := s₃.heap.push { cls := .type "slice", data := .fields #[vl, vu, .none] } } : Shared).heap.objs.size = s₃.heap.objs.size + 1 := Heap.size_push ..
  rw [e] at J2
  refine hQ _ _ (fun q hq h => ?_) (J2.nwSub fun q hq => ?_)
  · have := Heap.lt_size (I.news q hq).1
    rw [h] at this
    exact Nat.lt_irrefl _ (Nat.lt_of_succ_lt this)
  · rcases List.mem_cons.mp hq with rfl | hq
    · exact .head _
    · exact .tail _ (.tail _ hq)

theorem r_part_none {Q : Value → Shared → Prop} (h : Q .none s) : wpAny (model prog w) A (evalPart none env) Q E s := wpAny_pure h
theorem r_part_some {e : Expr} {Q : Value → Shared → Prop} (h : wpAny (model prog w) A (eval e env) Q E s) : wpAny (model prog w) A (evalPart (some e) env) Q E s := h

theorem r_range1 {n : Int} {t : Tok} {Q : Value → Shared → Prop} (I : St own names s₀ env vars nw s)
    (h : ∀ D a b c s', IsRange s'.heap D 0 n 1 a b c → St own names s₀ env vars nw s' → Q (.ref D) s') : wpAny (model prog w) A (call (.type "range") [.int n t]) Q E s := by
  refine call_range_1 (h _ _ _ _ _ (IsRange.new ..) ?_)
  exact ((I.push _ rfl).nwSub fun _ hq => .tail _ hq).toks _
theorem r_range2 {a b : Int} {t u : Tok} {Q : Value → Shared → Prop} (I : St own names s₀ env vars nw s)
    (h : ∀ D x y c s', IsRange s'.heap D a b 1 x y c → St own names s₀ env vars nw s' → Q (.ref D) s') : wpAny (model prog w) A (call (.type "range") [.int a t, .int b u]) Q E s := by
  refine call_range_2 (h _ _ _ _ _ (IsRange.new ..) ?_)
  exact ((I.push _ rfl).nwSub fun _ hq => .tail _ hq).toks _

theorem r_max {a b : Int} {t u : Tok} {Q : Value → Shared → Prop} (hA : A.handled = none) (I : St own names s₀ env vars nw s) (h : ∀ t s', St own names s₀ env vars nw s' → Q (.int (if b > a then b else a) t) s') :
    wpAny (model prog w) A (call (.builtin "max") [.int a t, .int b u]) Q E s := by
  refine max_two_ints hA fun h' tk hk => ?_
  have J := I.keeps (s' := { s with heap := h', toks := tk }) ⟨_, _, rfl, hk⟩
  by_cases hb : b > a
  · have := h u _ J; rw [if_pos hb] at this; rw [if_pos hb]; exact this
  · have := h t _ J; rw [if_neg hb] at this; rw [if_neg hb]; exact this

theorem r_append {l : Addr} {ys : Array Value} {k : Nat} {v : Value} {Q : Value → Shared → Prop} (I : St own names s₀ env vars nw s) {nw₁ : List (Addr × Obj)} (hl : (l, listObj ys k) ∈ nw) (hsub : ∀ p ∈ nw₁, p ∈ nw) (hne : ∀ p ∈ nw₁, p.1 ≠ l) (hsz : ys.size ≤ sizeLine)
    (h : ∀ k' s', St own names s₀ env vars ((l, listObj (ys.push v) k') :: nw₁) s' → Q .none s') (hown : own.w = false → ∀ n c, env.cells.lookup n = some c → l ≠ c := by intro h; cases h) :
    wpAny (model prog w) A (call (.builtin "list.append") [.ref l, v]) Q E s := by
  have J : St own names s₀ env vars ((l, listObj ys k) :: nw₁) s := I.nwSub fun p hp => by
    rcases List.mem_cons.mp hp with rfl | hp
    · exact hl
    · exact hsub p hp
  refine wpAny_list_append_plain (hsz := hsz) ⟨k, (J.news _ (.head _)).1⟩ fun h' hl' hs' => ?_
  obtain ⟨k', hk'⟩ := hl'
  exact h k' _ (J.setAt hs' hk' hne hown)

theorem r_getappend {l : Addr} {ys : Array Value} {k : Nat} {pl : Sem Bool} {Q : Value × List Value → Shared → Prop} (I : St own names s₀ env vars nw s) (hl : Held s₀ nw l (listObj ys k)) (h : Q (.builtin "list.append", [.ref l]) s) :
    wpAny (model prog w) A (getMethod (.ref l) "append" pl) Q E s := Calls.getMethod_list_append (hl.get I) rfl rfl h

theorem r_expr {e : Expr} {pos : Pos} {Q : Flow → Shared → Prop} (V : EnvOk names env) (h : wpAny (model prog w) A (eval e env) (fun v s' => v = .none ∧ Q .next s') E s)
    (hs : swapsWith e none pos.line env = pure false := by rfl) : wpAny (model prog w) A (exec (.Expr e pos) env) Q E s :=
  wpAny_Expr (wpAny_mono h (fun v s' h' => by obtain ⟨rfl, q⟩ := h'; exact q) fun _ _ x => x) (interactive_of V) hs
end

/-! join -/
theorem strs_pairs : ∀ {ls : List (List Nat)} {b : List Value}, Paired VS ls b → ∃ l : List (Str × Tok), strValues l = b ∧ l.map (·.1) = ls.map mkS
  | _, _, .nil => ⟨[], rfl, rfl⟩
  | _, _, .cons ⟨t, h⟩ r => by
    obtain ⟨l, h1, h2⟩ := strs_pairs r
    exact ⟨(_, t) :: l, by subst h; rw [← h1]; rfl, by simp [h2]⟩

def joinL (sep : List Nat) : List (List Nat) → List Nat
  | [] => []
  | [x] => x
  | x :: y :: r => x ++ sep ++ joinL sep (y :: r)
theorem join_eq (sep : List Nat) : ∀ ls : List (List Nat), Str.join (mkS sep) (ls.map mkS) = mkS (joinL sep ls)
  | [] => rfl
  | [x] => rfl
  | x :: y :: r => by
    show mkS x ++ mkS sep ++ Str.join (mkS sep) ((y :: r).map mkS) = _
    rw [join_eq sep (y :: r), mkS_append, mkS_append]
    rfl
theorem joinL_nil : ∀ ls : List (List Nat), joinL [] ls = ls.flatten
  | [] => rfl
  | [x] => by simp [joinL]
  | x :: y :: r => by
    show x ++ [] ++ joinL [] (y :: r) = _
    rw [joinL_nil (y :: r)]; simp
theorem join_total (sep : Str) (texts : List Str) : texts.toArray.foldl (· + ·.length + sep.length) 0 = (texts.map (·.length)).sum + texts.length * sep.length := StrLaws.joinTotal sep texts

section
variable {prog : Program} {w : World} {A : Around} {E : Value → Shared → Prop} {own : Mode} {names : List (Str × NameKind)} {s₀ s : Shared} {env : Env} {vars : List (Str × Value)} {nw : List (Addr × Obj)}
theorem r_join {sep : List Nat} {t : Tok} {D : Addr} {ys : Array Value} {k : Nat} {ls : List (List Nat)} {Q : Value → Shared → Prop} (I : St own names s₀ env vars nw s) (hl : Held s₀ nw D (listObj ys k)) (hp : Paired VS ls ys.toList)
    (hsz : (ls.map (·.length)).sum + ls.length * sep.length ≤ 1000000) (h : ∀ t s', St own names s₀ env vars nw s' → Q (.str (mkS (joinL sep ls)) t) s') :
    wpAny (model prog w) A (call (.builtin "str.join") [.str (mkS sep) t, .ref D]) Q E s := by
  obtain ⟨l, h1, h2⟩ := strs_pairs hp
  refine SC.join (l := l) (texts := ls.map mkS) ?_ h2 ?_ ?_
  · have := isList_of (hl.get I)
    rw [h1, Array.toArray_toList]; exact this
  · unfold JoinOk
    rw [join_total, List.map_map, List.length_map, mkS_length]
    have e : (ls.map ((·.length) ∘ mkS)) = ls.map (·.length) := List.map_congr_left fun x _ => mkS_length x
    rw [e]
    rw [Bool.not_eq_true']
    unfold Builtin.Str.tooLong
    simp only [decide_eq_false_iff_not]
    have := sizeLine_val
    omega
  · intro t' k
    have e : Txt.join (mkS sep) (ls.map mkS) = mkS (joinL sep ls) := by
      show Builtin.Str.glued (mkS sep) (ls.map mkS) = _
      rw [StrLaws.glued_eq_join, join_eq]
    rw [e]
    exact h _ _ (I.toks _)
end

/-! slices of texts -/
def cutL (l : List Nat) (lo hi : Option Int) : List Nat := (l.drop (lo.elim 0 (clipAt l.length))).take (hi.elim l.length (clipAt l.length) - lo.elim 0 (clipAt l.length))
theorem clipAt_le (n : Nat) (i : Int) : clipAt n i ≤ n := by
  have := clipAt_cast n i; omega
theorem strSlice_plain (lo hi : Option Int) (n : Nat) : Builtin.Str.strSliceIndices lo hi 1 n = sliceRange ((lo.elim 0 (clipAt n) : Nat) : Int) ((hi.elim n (clipAt n) : Nat) : Int) 1 := by
  unfold Builtin.Str.strSliceIndices
  cases lo <;> cases hi <;> simp [clipAt_cast]
theorem range_pick (l : List Nat) (a : Nat) : ∀ k, ((List.range k).map (a + ·)).filterMap (l.toArray[·]?) = (l.drop a).take k
  | 0 => by simp
  | k + 1 => by
    rw [List.range_succ, List.map_append, List.filterMap_append, range_pick l a k, List.take_add_one, List.getElem?_drop]
    congr 1
    cases h : l[a + k]? <;> simp [List.filterMap_cons, h]
theorem picked_eq (l : List Nat) (lo hi : Option Int) : (Builtin.Str.strSliceIndices lo hi 1 (mkS l).length).filterMap ((mkS l).cps[·]?) = cutL l lo hi := by
  rw [strSlice_plain, mkS_length, sliceRange_one, range_pick]
  rfl
theorem picked_len (l : List Nat) (lo hi : Option Int) : (Builtin.Str.strSliceIndices lo hi 1 (mkS l).length).length = hi.elim l.length (clipAt l.length) - lo.elim 0 (clipAt l.length) := by
  rw [strSlice_plain, mkS_length, sliceRange_one]; simp

section
variable {prog : Program} {w : World} {A : Around} {E : Value → Shared → Prop} {own : Mode} {names : List (Str × NameKind)} {s₀ s : Shared} {env : Env} {vars : List (Str × Value)} {nw : List (Addr × Obj)}

theorem isPart_value {v : Value} {k : Option Int} (h : IsPart v k) : ∃ p : Option (Int × Tok), v = partValue p ∧ p.map (·.1) = k := by
  cases h with
  | none => exact ⟨none, rfl, rfl⟩
  | int i t => exact ⟨some (i, t), rfl, rfl⟩

theorem r_slicestr {value : Expr} {lower upper : Option Expr} {p pos : Pos} {Q : Value → Shared → Prop}
    (h : wpAny (model prog w) A (eval value env) (fun o s₁ => wpAny (model prog w) A (evalPart lower env) (fun vl s₂ => wpAny (model prog w) A (evalPart upper env) (fun vu s₃ =>
      ∃ l t lo hi vars nw, o = .str (mkS l) t ∧ St own names s₀ env vars nw s₃ ∧ l.length ≤ sizeLine ∧ IsPart vl lo ∧ IsPart vu hi ∧
        ∀ t s', St own names s₀ env vars nw s' → Q (.str (mkS (cutL l lo hi)) t) s') E s₂) E s₁) E s)
    (ht : ∀ o r, letTemporaryGo value o r = pure () := by intro _ _; rfl) :
    wpAny (model prog w) A (eval (.Subscript value (.Slice lower upper none p) pos) env) Q E s := by
  refine wpAny_Subscript_str_slice (wpAny_mono h (fun o s₁ h₁ => wpAny_mono h₁ (fun vl s₂ h₂ => wpAny_mono h₂ (fun vu s₃ h₃ => ?_) fun _ _ e => e) fun _ _ e => e) fun _ _ e => e) ht
  obtain ⟨l, t, lo, hi, vars, nw, rfl, I, hsz, pl, pu, hQ⟩ := h₃
  obtain ⟨pl', rfl, hpl⟩ := isPart_value pl
  obtain ⟨pu', rfl, hpu⟩ := isPart_value pu
  refine ⟨mkS l, t, pl', pu', rfl, rfl, rfl, ?_⟩
  have J := (I.push { cls := .type "slice", data := .fields #[partValue pl', partValue pu', .none] } rfl).nwSub (nw' := nw) fun _ hq => .tail _ hq
  have hpk : (slicePicked (mkS l) pl' pu' none).filterMap ((mkS l).cps[·]?) = cutL l lo hi := by unfold slicePicked; rw [hpl, hpu]; exact picked_eq l lo hi
  have hln : (slicePicked (mkS l) pl' pu' none).length = hi.elim l.length (clipAt l.length) - lo.elim 0 (clipAt l.length) := by unfold slicePicked; rw [hpl, hpu]; exact picked_len l lo hi
  unfold sliceMade
  split
  · rename_i hc
    have hc' : (slicePicked (mkS l) pl' pu' none).length = l.length := by
      simp only [Bool.and_eq_true, beq_iff_eq, mkS_length] at hc
      exact hc.2
    rw [hln] at hc'
    have e : cutL l lo hi = l := by
      unfold cutL
      have h1 : hi.elim l.length (clipAt l.length) ≤ l.length := by cases hi with | none => exact Nat.le_refl _ | some i => exact clipAt_le _ _
      rw [hc']
      have h2 : lo.elim 0 (clipAt l.length) = 0 ∨ l.length = 0 := by omega
      rcases h2 with h2 | h2
      · rw [h2]; simp
      · cases l with | nil => simp | cons _ _ => simp at h2
    have := hQ t _ J
    rw [e] at this
    exact this
  · rw [hpk]
    refine ⟨?_, hQ _ _ (J.toks _)⟩
    rw [mkS_length]
    refine Nat.le_trans ?_ hsz
    unfold cutL
    simp
    omega

theorem r_eqints {l b : Addr} {xs ys : Array Value} {k k' : Nat} {ns ms : List Int} {Q : Value → Shared → Prop} (hu : A.units < cLine) (I : St own names s₀ env vars nw s) (hl : Held s₀ nw l (listObj xs k)) (hb : Held s₀ nw b (listObj ys k')) (hx : Paired VI ns xs.toList) (hy : Paired VI ms ys.toList)
    (h : Q (.bool (decide (ns = ms))) s) : wpAny (model prog w) A (compareOp .Eq (.ref l) (.ref b)) Q E s := by
  have lx := hx.length
  have ly := hy.length
  simp only [Array.length_toList] at lx ly
  by_cases hsz : xs.size = ys.size
  · refine SeqAt.eq_listAt (e := fun j => decide (ns[j]? = ms[j]?)) (isList_of (hl.get I)) (isList_of (hb.get I)) hsz hu (fun j h1 h2 => ?_) ?_
    · obtain ⟨n, hn, t, ht⟩ := paired_get' hx j xs[j] (by simp [h1])
      obtain ⟨m, hm, u, hu⟩ := paired_get' hy j ys[j] (by simp [h2])
      rw [ht, hu, hn, hm]
      have := SeqAt.EqAt.int_int (A := A.in1) (s := s) n t m u
      have e : decide (some n = some m) = (n == m) := by rw [Bool.eq_iff_iff]; simp
      rw [e]; exact this
    · have e : (List.range xs.size).all (fun j => decide (ns[j]? = ms[j]?)) = decide (ns = ms) := by
        rw [Bool.eq_iff_iff, List.all_eq_true, decide_eq_true_eq]
        constructor
        · intro hh
          apply List.ext_getElem?
          intro j
          by_cases hj : j < xs.size
          · exact of_decide_eq_true (hh j (List.mem_range.mpr hj))
          · rw [List.getElem?_eq_none (by omega), List.getElem?_eq_none (by omega)]
        · rintro rfl j _; simp
      rw [e]; exact h
  · refine SeqAt.eq_list_lengthsAt (isList_of (hl.get I)) (isList_of (hb.get I)) (by simpa using hsz) hu ?_
    have e : decide (ns = ms) = false := by
      rw [decide_eq_false_iff_not]
      rintro rfl
      omega
    rw [e] at h; exact h

theorem r_eqstrs {l b : Addr} {xs ys : Array Value} {k k' : Nat} {ns ms : List (List Nat)} {Q : Value → Shared → Prop} (hu : A.units < cLine) (I : St own names s₀ env vars nw s) (hl : Held s₀ nw l (listObj xs k)) (hb : Held s₀ nw b (listObj ys k')) (hx : Paired VS ns xs.toList) (hy : Paired VS ms ys.toList)
    (h : Q (.bool (decide (ns = ms))) s) : wpAny (model prog w) A (compareOp .Eq (.ref l) (.ref b)) Q E s := by
  have lx := hx.length
  have ly := hy.length
  simp only [Array.length_toList] at lx ly
  by_cases hsz : xs.size = ys.size
  · refine SeqAt.eq_listAt (e := fun j => decide (ns[j]? = ms[j]?)) (isList_of (hl.get I)) (isList_of (hb.get I)) hsz hu (fun j h1 h2 => ?_) ?_
    · obtain ⟨n, hn, t, ht⟩ := paired_get' hx j xs[j] (by simp [h1])
      obtain ⟨m, hm, u, hu⟩ := paired_get' hy j ys[j] (by simp [h2])
      rw [ht, hu, hn, hm]
      have := (SeqRoads2.EqGives.str (mkS n) (mkS m) t u).at A.in1 s
      rw [mkS_toList, mkS_toList] at this
      have e : decide (some n = some m) = (n == m) := by rw [Bool.eq_iff_iff]; simp
      rw [e]; exact this
    · have e : (List.range xs.size).all (fun j => decide (ns[j]? = ms[j]?)) = decide (ns = ms) := by
        rw [Bool.eq_iff_iff, List.all_eq_true, decide_eq_true_eq]
        constructor
        · intro hh
          apply List.ext_getElem?
          intro j
          by_cases hj : j < xs.size
          · exact of_decide_eq_true (hh j (List.mem_range.mpr hj))
          · rw [List.getElem?_eq_none (by omega), List.getElem?_eq_none (by omega)]
        · rintro rfl j _; simp
      rw [e]; exact h
  · refine SeqAt.eq_list_lengthsAt (isList_of (hl.get I)) (isList_of (hb.get I)) (by simpa using hsz) hu ?_
    have e : decide (ns = ms) = false := by
      rw [decide_eq_false_iff_not]
      rintro rfl
      omega
    rw [e] at h; exact h

theorem r_seq {st : Stmt} {rest : List Stmt} {Q : Flow → Shared → Prop} (P : Shared → Prop) (h1 : wpAny (model prog w) A (exec st env) (fun f s' => f = .next ∧ P s') (fun _ _ => False) s) (h2 : ∀ s', P s' → wpAny (model prog w) A (execs rest env) Q E s') :
    wpAny (model prog w) A (execs (st :: rest) env) Q E s :=
  wpAny_execs_cons (wpAny_mono h1 (fun f s' h => by obtain ⟨rfl, p⟩ := h; exact h2 s' p) fun _ _ e => e.elim)

theorem r_isbool {n : Int} {u : Tok} {Q : Value → Shared → Prop} (I : St own names s₀ env vars nw s) (h : ∀ s', St own names s₀ env vars nw s' → Q (.bool false) s') : wpAny (model prog w) A (call (.builtin "isinstance") [.int n u, .type "bool"]) Q E s := IsiPair.int_bool (h _ (I.toks _))
theorem r_isint {n : Int} {u : Tok} {Q : Value → Shared → Prop} (h : Q (.bool true) s) : wpAny (model prog w) A (call (.builtin "isinstance") [.int n u, .type "int"]) Q E s := IsiPair.int_int h
end

theorem law_post (l : OpenLaw) (args : List WData) : l.row.claim.post args (.bool true) args = true := by
  show (WShape.has [] (.bool true) .bool && WTm.holds [] (.eq .res (.lit (.bool true))) { args := args, res := some (.bool true), after := args }) = true
  simp only [WShape.has, WTm.holds, WTm.value, Bool.and_eq_true]
  exact ⟨by simp [WShape.arms], by simp [same]⟩
theorem law_good (l : OpenLaw) {cl : Str → Option Addr} {mean : ExcName → Option Value} {args : List WData} {s₁ s' : Shared} (e : Ext s₁ s') (hg : AllBare s₁.gens) :
    GoodWG l.row.claim cl mean args s₁ (.ok (.ret (.bool true))) s' :=
  ⟨.inl ⟨.bool true, .bool true, [], rfl, fun _ => rfl, .bool true, law_post l args, fun _ => ⟨.nil, fun _ h => nomatch h⟩⟩, .of_keep e.heap, e.os, e.bare hg⟩

theorem paired_ints {vs : List Value} {ns : List Int} (h : IntsAre vs ns) : Paired VI ns vs := by
  induction h with
  | nil => exact .nil
  | cons n t _ ih => exact .cons ⟨t, rfl⟩ ih
theorem if_ff {a b : Prop} (h : b) : if false = true then a else b := h
theorem if_tt {a b : Prop} (h : a) : if true = true then a else b := h
theorem if_nt {a b : Prop} (h : b) : if (!true) = true then a else b := h
theorem if_nf {a b : Prop} (h : a) : if (!false) = true then a else b := h
theorem t_last {M : Model} {A : Around} {E : Value → Shared → Prop} {s : Shared} {env : Env} {pos : Pos} {a : Value} {op : CmpOp} {r : Sem Value} {Q : Bool → Shared → Prop}
    (h : wpAny M A r (fun b s₁ => wpAny M A (compareOp op a b) (fun c s₂ => wpAny M A (truthy c) Q E s₂) E s₁) E s) : wpAny M A (testChain pos a [op] (r :: evalEach [] env)) Q E s := test_last h
theorem slicePick_init (ys : Array Value) : slicePick ys none (some (-1)) none = ys.toList.dropLast.toArray := by
  rw [slicePick_plain]
  simp only [Option.elim, List.drop_zero, Nat.sub_zero, clipAt]
  congr 1
  rw [List.dropLast_eq_take]
  congr 1
  simp
  omega
theorem paired_init {α β : Type} {F : α → β → Prop} {a : List α} {b : List β} (h : Paired F a b) : Paired F a.dropLast b.dropLast := by
  rw [List.dropLast_eq_take, List.dropLast_eq_take, h.length]
  exact paired_take _ h
theorem Rm.less' {k j : Nat} {A : Around} (r : Rm k A) (h : j ≤ k) : Rm j A := ⟨r.handled, by have := r.depth; omega, by have := r.units; omega⟩
theorem sum_le {α : Type} (f : α → Nat) (c : Nat) (h : ∀ x, f x ≤ c) : ∀ l : List α, (l.map f).sum ≤ l.length * c
  | [] => by simp
  | x :: r => by
    have := sum_le f c h r
    have := h x
    simp only [List.map_cons, List.sum_cons, List.length_cons, Nat.succ_mul]; omega
theorem bare_of {own names s₀ env vars nw s} (I : St own names s₀ env vars nw s) (hm : own.fix = none := by rfl) : AllBare s.gens := by
  have := I.bare; unfold GOk at this; rw [hm] at this; exact this
theorem cut_run (l : List Nat) (a b : Nat) {u v : Int} (hu : u = a) (hv : v = b) (hab : a ≤ b) (hb : b ≤ l.length) : cutL l (some u) (some v) = (l.drop a).take (b - a) := by
  subst hu hv
  unfold cutL
  simp only [Option.elim, clipAt_nat]
  rw [Nat.min_eq_left hb, Nat.min_eq_left (Nat.le_trans hab hb)]
theorem io_ne {own names s₀ env vars nw s} {io : Addr × Obj} {l : Addr} {ys : Array Value} {k : Nat} (I : St own names s₀ env vars (io :: (l, listObj ys k) :: nw) s) (hio : io.2.cls ≠ .type "list") : io.1 ≠ l := fun h => by
  have h1 := (I.news _ (.head _)).1
  have h2 := (I.news _ (.tail _ (.head _))).1
  rw [h] at h1
  have h3 : io.2 = listObj ys k := Option.some.inj (h1.symm.trans h2)
  exact hio (by rw [h3])
theorem list_of {P : Params} {h : Heap} {a : Addr} {vs : List Value} {d : PyData} {ds : List PyData} (hd : d = .list ds) (W : Well P h (.ref a) (ofPy d)) (L : h.IsList a vs.toArray) : h.get? a = some (listObj vs.toArray 0) := by
  subst hd
  have W' : Well P h (.ref a) (.list (ofPys ds)) := by simpa [ofPy] using W
  cases W' with
  | list e _ =>
    obtain ⟨o, eo, hc, k, hd⟩ := L
    rw [e] at eo
    cases eo
    simp only [Data.seq.injEq] at hd
    rw [e, hd.1]
theorem bare_nil {g : Array GenState} (h : g = #[]) : AllBare g := by
  subst h
  intro i hx
  simp at hx
/-- the needle lies somewhere in the text -/
def has (x y : List Nat) : Bool := (List.range (x.length + 1)).any (occ x y)
theorem has_iff (x y : List Nat) : has x y = true ↔ ∃ k, occ x y k = true := by
  unfold has
  rw [List.any_eq_true]
  constructor
  · rintro ⟨k, _, h⟩; exact ⟨k, h⟩
  · rintro ⟨k, h⟩
    have := occ_le h
    exact ⟨k, List.mem_range.mpr (by omega), h⟩
theorem has_not {x y : List Nat} (h : has x y = false) (k : Nat) : occ x y k = false := by
  cases q : occ x y k with
  | false => rfl
  | true => rw [(has_iff x y).mpr ⟨k, q⟩] at h; cases h
theorem joinL_len (sep : List Nat) : ∀ ls : List (List Nat), (joinL sep ls).length ≤ (ls.map (·.length)).sum + ls.length * sep.length
  | [] => by simp [joinL]
  | [x] => by simp [joinL]
  | x :: y :: r => by
    show (x ++ sep ++ joinL sep (y :: r)).length ≤ _
    have := joinL_len sep (y :: r)
    simp only [List.length_append, List.map_cons, List.sum_cons, List.length_cons, Nat.succ_mul] at this ⊢
    omega
theorem cut_init (l : List Nat) : cutL l none (some (-1)) = l.dropLast := by
  unfold cutL
  simp only [Option.elim, List.drop_zero, Nat.sub_zero, clipAt]
  rw [List.dropLast_eq_take]
  congr 1
  simp
  omega
theorem slicePick_mid (ys : Array Value) : slicePick ys (some 1) (some (-1)) none = (ys.toList.drop 1).dropLast.toArray := by
  rw [slicePick_plain]
  simp only [Option.elim, clipAt]
  congr 1
  rw [List.dropLast_eq_take, List.length_drop]
  by_cases h : ys.size = 0
  · have : ys.toList = [] := by simpa using h
    simp [this]
  · congr 1
    · simp; omega
    · congr 1
      simp; omega
theorem slicePick_tail (ys : Array Value) : slicePick ys (some 1) none none = (ys.toList.drop 1).toArray := slicePick_from' ys 1
theorem io_ne' {own names s₀ env vars nw s} {io : Addr × Obj} {l : Addr} {ys : Array Value} {k : Nat} (I : St own names s₀ env vars (io :: nw) s) (hio : io.2.cls ≠ .type "list") (hl : (l, listObj ys k) ∈ nw) : io.1 ≠ l := fun h => by
  have h1 := (I.news _ (.head _)).1
  have h2 := (I.news _ (.tail _ hl)).1
  rw [h] at h1
  have h3 : io.2 = listObj ys k := Option.some.inj (h1.symm.trans h2)
  exact hio (by rw [h3])
section
variable {prog : Program} {w : World} {A : Around} {E : Value → Shared → Prop} {s : Shared}
theorem r_instr {x y : List Nat} {t u : Tok} {Q : Value → Shared → Prop} (h : Q (.bool (has x y)) s) : wpAny (model prog w) A (compareOp .In (.str (mkS y) u) (.str (mkS x) t)) Q E s := by
  refine P.in_str ?_
  rcases StrLaws.occ_head_from (mkS x) (mkS y) 0 1 (Nat.le_refl 1) with ⟨h0, hn⟩ | ⟨k, r, h0, hlo, hk, hn⟩
  · rw [h0]
    have e : has x y = false := by
      cases q : has x y with
      | false => rfl
      | true =>
        obtain ⟨k, hk⟩ := (has_iff x y).mp q
        exact absurd ((occ_at x y k).mp hk) (hn k (Nat.zero_le _))
    rw [e] at h; exact h
  · rw [h0]
    rw [(has_iff x y).mpr ⟨k, (occ_at x y k).mpr hk⟩] at h; exact h
end
section
variable {prog : Program} {w : World} {A : Around} {E : Value → Shared → Prop} {own : Mode} {names : List (Str × NameKind)} {s₀ s : Shared} {env : Env} {vars : List (Str × Value)} {nw : List (Addr × Obj)}
theorem eq_all {α : Type} [DecidableEq α] {ns ms : List α} {n : Nat} (hn : ns.length = n) (hm : ms.length = n) : (List.range n).all (fun j => decide (ns[j]? = ms[j]?)) = decide (ns = ms) := by
  rw [Bool.eq_iff_iff, List.all_eq_true, decide_eq_true_eq]
  constructor
  · intro hh
    apply List.ext_getElem?
    intro j
    by_cases hj : j < n
    · exact of_decide_eq_true (hh j (List.mem_range.mpr hj))
    · rw [List.getElem?_eq_none (by omega), List.getElem?_eq_none (by omega)]
  · rintro rfl j _; simp
theorem r_nelistG {α : Type} [DecidableEq α] {F : α → Value → Prop} {l b : Addr} {xs ys : Array Value} {k k' : Nat} {ns ms : List α} {Q : Value → Shared → Prop} (hF : ∀ n m a b (A : Around), F n a → F m b → SeqAt.EqAt A s a b (decide (n = m))) (hu : A.units < cLine) (I : St own names s₀ env vars nw s) (hl : Held s₀ nw l (listObj xs k)) (hb : Held s₀ nw b (listObj ys k')) (hx : Paired F ns xs.toList) (hy : Paired F ms ys.toList)
    (h : Q (.bool (!decide (ns = ms))) s) : wpAny (model prog w) A (compareOp .NotEq (.ref l) (.ref b)) Q E s := by
  have lx := hx.length
  have ly := hy.length
  simp only [Array.length_toList] at lx ly
  by_cases hsz : xs.size = ys.size
  · refine EqBoolInt.of_rcne (SeqAt.RcNeAt.lists (e := fun j => decide (ns[j]? = ms[j]?)) (isList_of (hl.get I)) (isList_of (hb.get I)) hsz hu (fun j h1 h2 => ?_)) ?_
    · obtain ⟨n, hn, ht⟩ := paired_get' hx j xs[j] (by simp [h1])
      obtain ⟨m, hm, hu⟩ := paired_get' hy j ys[j] (by simp [h2])
      rw [hn, hm]
      have := hF n m _ _ A.in1 ht hu
      have e : decide (some n = some m) = decide (n = m) := by rw [decide_eq_decide]; simp
      rw [e]; exact this
    · rw [eq_all lx (by omega)]; exact h
  · refine EqBoolInt.of_rcne (SeqAt.RcNeAt.lists_lengths (isList_of (hl.get I)) (isList_of (hb.get I)) (by simpa using hsz) hu) ?_
    have e : decide (ns = ms) = false := by
      rw [decide_eq_false_iff_not]
      rintro rfl
      omega
    rw [e] at h; exact h
theorem eqAt_int {n m : Int} {a b : Value} {A : Around} {s : Shared} (h : VI n a) (h' : VI m b) : SeqAt.EqAt A s a b (decide (n = m)) := by
  obtain ⟨t, rfl⟩ := h
  obtain ⟨u, rfl⟩ := h'
  have := SeqAt.EqAt.int_int (A := A) (s := s) n t m u
  have e : decide (n = m) = (n == m) := by rw [Bool.eq_iff_iff]; simp
  rw [e]; exact this
theorem eqAt_str {n m : List Nat} {a b : Value} {A : Around} {s : Shared} (h : VS n a) (h' : VS m b) : SeqAt.EqAt A s a b (decide (n = m)) := by
  obtain ⟨t, rfl⟩ := h
  obtain ⟨u, rfl⟩ := h'
  have := (SeqRoads2.EqGives.str (mkS n) (mkS m) t u).at A s
  rw [mkS_toList, mkS_toList] at this
  have e : decide (n = m) = (n == m) := by rw [Bool.eq_iff_iff]; simp
  rw [e]; exact this
theorem r_neints {l b : Addr} {xs ys : Array Value} {k k' : Nat} {ns ms : List Int} {Q : Value → Shared → Prop} (hu : A.units < cLine) (I : St own names s₀ env vars nw s) (hl : Held s₀ nw l (listObj xs k)) (hb : Held s₀ nw b (listObj ys k')) (hx : Paired VI ns xs.toList) (hy : Paired VI ms ys.toList)
    (h : Q (.bool (!decide (ns = ms))) s) : wpAny (model prog w) A (compareOp .NotEq (.ref l) (.ref b)) Q E s := r_nelistG (fun _ _ _ _ _ h1 h2 => eqAt_int h1 h2) hu I hl hb hx hy h
theorem r_nestrs {l b : Addr} {xs ys : Array Value} {k k' : Nat} {ns ms : List (List Nat)} {Q : Value → Shared → Prop} (hu : A.units < cLine) (I : St own names s₀ env vars nw s) (hl : Held s₀ nw l (listObj xs k)) (hb : Held s₀ nw b (listObj ys k')) (hx : Paired VS ns xs.toList) (hy : Paired VS ms ys.toList)
    (h : Q (.bool (!decide (ns = ms))) s) : wpAny (model prog w) A (compareOp .NotEq (.ref l) (.ref b)) Q E s := r_nelistG (fun _ _ _ _ _ h1 h2 => eqAt_str h1 h2) hu I hl hb hx hy h
theorem r_nebool {a b : Bool} {Q : Value → Shared → Prop} (h : Q (.bool (!(a == b))) s) : wpAny (model prog w) A (compareOp .NotEq (.bool a) (.bool b)) Q E s := EqBoolInt.of_rcne (SeqAt.RcNeAt.bool_bool a b) h
end
theorem paired_of_items {x y : List Nat} {acc : Array Value} (h : ItemsOf (fun j v => ∃ k t, (picks x y)[j]? = some k ∧ v = .int ((k : Nat) : Int) t) acc (picks x y).length) : Paired VI ((picks x y).map fun (k : Nat) => (k : Int)) acc.toList := by
  obtain ⟨h1, h2⟩ := h
  refine paired_map _ (paired_of_get (by simpa using h1.symm) fun i a v ha hv => ?_)
  obtain ⟨k, t, hk, rfl⟩ := h2 i v (by simpa using hv)
  rw [ha] at hk; cases hk
  exact ⟨t, rfl⟩
theorem last_get {α : Type} {l : List α} (h : 0 < l.length) : l[l.length - 1]? = some (l.getLast (by intro e; subst e; simp at h)) := by
  rw [List.getLast_eq_getElem, List.getElem?_eq_getElem]
theorem sum_le_of {α : Type} (f : α → Nat) (c : Nat) : ∀ l : List α, (∀ x ∈ l, f x ≤ c) → (l.map f).sum ≤ l.length * c
  | [], _ => by simp
  | x :: r, h => by
    have := sum_le_of f c r fun y hy => h y (.tail _ hy)
    have := h x (.head _)
    simp only [List.map_cons, List.sum_cons, List.length_cons, Nat.succ_mul]; omega
/-! more steps of a generator's run: if, for, yield from -/
section
variable {M : Model} {A : Around} {R : GenEnd} {Y : Protocol} {n : Nat} {s₀ : Shared} {c : Code} {fs : List Frame} {s : Shared} {env : Env}
  {K : Flow → Sem Fin} {H : Value → Sem Fin} {gd : Bool → Bool} {lv : List Value → List Value}

theorem seg_b {α : Type} {m : Sem α} {f : α → Sem Fin} (h : wpAny M (A.over c fs) m (fun a s' => Seg M A R Y n s₀ c (f a) fs s') (fun _ _ => False) s) :
    Seg M A R Y n s₀ c (m >>= f) fs s := seg_bind (wpAny_mono h (fun _ _ x => x) fun _ _ e => e.elim)
theorem seg_wb {α β : Type} {m : Sem α} {f : α → Sem β} {K : β → Sem Fin} (h : wpAny M (A.over c fs) m (fun a s' => Seg M A R Y n s₀ c ((f a).wrap K H gd lv) fs s') (fun _ _ => False) s) :
    Seg M A R Y n s₀ c ((m >>= f).wrap K H gd lv) fs s := by
  rw [Sem.bind_eq_wrap', Sem.wrap_wrap]
  exact seg_wrap (wpAny_mono h (fun _ _ x => x) fun _ _ e => e.elim)

theorem seg_If {test : Expr} {body orelse : List Stmt} {pos : Pos} (h : wpAny M (A.over c fs) (isTrue test env (eval test env)) (fun b s' =>
      if b = true then Seg M A R Y n s₀ c ((execs body env).wrap K H gd lv) fs s' else Seg M A R Y n s₀ c ((execs orelse env).wrap K H gd lv) fs s') (fun _ _ => False) s) :
    Seg M A R Y n s₀ c ((exec (.If test body orelse pos) env).wrap K H gd lv) fs s := by
  rw [exec_If]
  refine seg_wb (wpAny_standAt ?_)
  refine seg_wb (wpAny_mono h (fun b s' h' => ?_) fun _ _ e => e)
  cases b <;> exact h'

theorem seg_For {target iter : Expr} {body orelse : List Stmt} {pos : Pos} (hs : ∀ x, foldedSetIterable iter env x = pure x)
    (h : wpAny M (A.over c fs) (eval iter env) (fun x s₁ => wpAny M (A.over c fs) (pyIter x) (fun it s₂ => ∀ p, Seg M A R Y n s₀ (.forLoop target it body orelse env) (M.den (.forLoop target it body orelse env))
      (.ret (fun r => ((match r with | .ok f => (.pure f : Sem Flow) | .error e => .raise e).onRaise fun (x : Value) => do
        if (← field x 1) == Value.none then unsupported "frame.own-activation:exception-without-traceback"
        setFlight x env.frame).wrap K H gd lv) none (gd false) (lv []) c p [] :: fs) s₂) (fun _ _ => False) s₁) (fun _ _ => False) s) :
    Seg M A R Y n s₀ c ((exec (.For target iter body orelse pos) env).wrap K H gd lv) fs s := by
  rw [exec_For]
  refine seg_wb (wpAny_standAt ?_)
  refine seg_wb (wpAny_mono h (fun x s₁ h₁ => ?_) fun _ _ e => e)
  refine seg_wb (wpAny_of_eq (hs x) ?_)
  refine seg_wb (wpAny_standAt ?_)
  refine seg_wb (wpAny_holding (wpAny_mono h₁ (fun it s₂ h₂ => ?_) fun _ _ e => e))
  exact seg_call h₂
end

section
variable {prog : Program} {w : World} {A : Around} {R : GenEnd} {Y : Protocol} {n : Nat} {s₀ : Shared} {fs : List Frame} {s : Shared} {env : Env}

theorem seg_forLoop {target : Expr} {it : Value} {body : List Stmt} (ht : ∀ v, letOwnedTupleGo target it v = pure ())
    (h : wpAny (model prog w) (A.over (.forLoop target it body [] env) fs) (pyNext it) (fun r s' => match r with
      | none => Seg (model prog w) A R Y n s₀ (.block [] env) (leafOf (.ok .next)) fs s'
      | some v => wpAny (model prog w) (A.over (.forLoop target it body [] env) fs) (assign target env v) (fun _ s'' => ∀ H : Value → Sem Fin, Seg (model prog w) A R Y n s₀ (.forLoop target it body [] env) ((execs body env).wrap (fun f => match f with
            | .next | .cont => .pure (.again (.forLoop target it body [] env))
            | .brk => .pure (.done .next)
            | .ret v => .pure (.done (.ret v))) H id id) fs s'') (fun _ _ => False) s') (fun _ _ => False) s) :
    Seg (model prog w) A R Y n s₀ (.forLoop target it body [] env) ((model prog w).den (.forLoop target it body [] env)) fs s := by
  show Seg _ A R Y n s₀ _ ((forTurn target it body [] env).onRaise (fun x => do noteFrame x env; theTreesLotGoes x)) fs s
  unfold forTurn
  rw [Sem.onRaise_eq_wrap]
  refine seg_wb (wpAny_standAt ?_)
  refine seg_wb (wpAny_onRaise (wpAny_mono h (fun r s' h' => ?_) fun _ _ e => e.elim))
  cases r with
  | none => exact seg_again rfl h'
  | some v =>
    refine seg_wb (wpAny_of_eq (ht v) ?_)
    refine seg_wb (wpAny_mono h' (fun _ s'' h'' => ?_) fun _ _ e => e)
    rw [Sem.bind_eq_wrap', Sem.wrap_wrap]
    rw [Sem.wrap_congr (execs body env) _ _ (K' := fun f => match f with
            | .next | .cont => .pure (.again (.forLoop target it body [] env))
            | .brk => .pure (.done .next)
            | .ret v => .pure (.done (.ret v))) (H' := _) (fun f => by cases f <;> rfl) (fun e => rfl)]
    exact h'' _
end
theorem entry_yf : entryFor table "proto.yield_from" = some Builtin.«proto.yield_from» := entryFor_of_fast (by kernel_rfl)
theorem quiet_yf (args : Args) : (Code.builtin "proto.yield_from" args).quiet = true := Code.quiet_builtin args (by decide +kernel)
theorem no_close : typeLookup (.type "list_iterator") "close" = pure none := by rw [typeLookup_type]; kernel_rfl
abbrev stopObj (t : Addr) : Obj := { cls := .type "StopIteration", data := .fields #[.ref t, .none, .none, .none, .bool false, .none] }
section
variable {prog : Program} {w : World} {A : Around} {E : Value → Shared → Prop} {s : Shared}
/-- a step of a list's iterator -/
theorem next_item {it l : Addr} {i : Nat} {items : Array Value} {x : Value} {Q : Option Value → Shared → Prop} (hit : s.heap.IsListIter it l i) (hl : s.heap.IsList l items) (hx : items[i]? = some x)
    (hQ : ∀ h', h'.IsListIter it l (i + 1) → Heap.SameBut it s.heap h' → Q (some x) { s with heap := h' }) : wpAny (model prog w) A (callSpecial? (.ref it) "__next__") Q E s := by
  obtain ⟨oi, hoi, hci, hdi⟩ := id hit
  obtain ⟨ol, hol, hcl, k, hdl⟩ := hl
  refine wpAny_callSpecial?_slot (name := Str.ofString "__next__") hit.typeIs slot_listiter_next (wpAny_call_entry slot_listiter_next hit.typeIs entry_listiter_next ?_ (args_listiter_next _))
  show wpAny _ _ (field (.ref it) 0 >>= _) _ _ s
  refine wpAny_bind (wpAny_field hoi hdi (x := .ref l) rfl ?_)
  show wpAny _ _ (if (Value.ref l == Value.none) = true then _ else _) _ _ s
  rw [if_neg (show ¬ ((Value.ref l == Value.none) = true) from Bool.false_ne_true)]
  show wpAny _ _ (field (.ref it) 1 >>= _) _ _ s
  refine wpAny_bind (wpAny_field hoi hdi (x := .int i 0) rfl ?_)
  show wpAny _ _ (seqItems? (.ref l) >>= _) _ _ s
  refine wpAny_bind (wpAny_seqItems hol hdl ?_)
  simp only [Int.toNat_natCast, hx]
  refine wpAny_bind (wpAny_setField hoi hdi (by simp) (wpAny_pure ⟨x, rfl, hQ _ ⟨_, Heap.get?_update_self _ hoi (Obj.isFreed_of_fields (Obj.data_mapFields hdi _)), (Obj.cls_mapFields ..).trans hci, ?_⟩ (Heap.SameBut.update ..)⟩))
  rw [Obj.data_mapFields hdi]; simp [rawInt]
theorem next_stop {it l : Addr} {i : Nat} {items : Array Value} {Q : Option Value → Shared → Prop} (hh : A.handled = none) (hit : s.heap.IsListIter it l i) (hl : s.heap.IsList l items) (hx : items[i]? = none)
    (hE : ∀ h' e t, Heap.ExtBut it s.heap h' → h'.get? e = some (stopObj t) → E (.ref e) { s with heap := h' }) : wpAny (model prog w) A (callSpecial? (.ref it) "__next__") Q E s := by
  obtain ⟨oi, hoi, hci, hdi⟩ := id hit
  obtain ⟨ol, hol, hcl, k, hdl⟩ := hl
  refine wpAny_callSpecial?_slot (name := Str.ofString "__next__") hit.typeIs slot_listiter_next (wpAny_call_entry slot_listiter_next hit.typeIs entry_listiter_next ?_ (args_listiter_next _))
  show wpAny _ _ (field (.ref it) 0 >>= _) _ _ s
  refine wpAny_bind (wpAny_field hoi hdi (x := .ref l) rfl ?_)
  show wpAny _ _ (if (Value.ref l == Value.none) = true then _ else _) _ _ s
  rw [if_neg (show ¬ ((Value.ref l == Value.none) = true) from Bool.false_ne_true)]
  show wpAny _ _ (field (.ref it) 1 >>= _) _ _ s
  refine wpAny_bind (wpAny_field hoi hdi (x := .int i 0) rfl ?_)
  show wpAny _ _ (seqItems? (.ref l) >>= _) _ _ s
  refine wpAny_bind (wpAny_seqItems hol hdl ?_)
  simp only [Int.toNat_natCast, hx]
  refine wpAny_bind (wpAny_rule (wpAny_bind (wpAny_setField hoi hdi (by simp) ?_)))
  show wpAny _ _ (newExc (.type "StopIteration") [] >>= _) _ _ _
  refine wpAny_bind ?_
  simp only [newExc, newTuple]
  refine wpAny_bind (wpAny_newObj_type ?_ (by size_fits))
  refine wpAny_bind (m := firstArgMember _ _) (wpAny_of_eq (a := Value.none) (by first | rfl | (simp only [firstArgMember]; rfl)) ?_)
  refine wpAny_newObj_type ?_ (by size_fits)
  simp only [raiseNew]
  refine wpAny_bind (wpAny_handled ?_)
  rw [show A.in1.handled = none from hh]
  refine wpAny_bind (wpAny_pure (wpAny_throw ?_))
  exact hE _ _ _ (((Heap.SameBut.update ..).extBut.push _).push _) (Heap.get?_push_size _ rfl)
end

theorem slept_over {M : Model} {A : Around} {E : Value → Shared → Prop} {s : Shared} {it l : Addr} {i : Nat} {b : Bool} {Q : Unit → Shared → Prop} (hit : s.heap.IsListIter it l i) (h : Q () s) : wpAny M A (Builtin.Generator.sleptOver (.ref it) b) Q E s := by
  obtain ⟨oi, hoi, hci, hdi⟩ := hit
  unfold Builtin.Generator.sleptOver
  refine wpAny_bind (wpAny_load hoi ?_)
  rw [hci]
  exact wpAny_pure h
theorem ends_turn {M : Model} {A : Around} {E : Value → Shared → Prop} {s : Shared} {e t : Addr} {Q : Bool → Shared → Prop} (ho : s.heap.get? e = some (stopObj t)) (h : Q true s) : wpAny M A (Builtin.Generator.endsTheTurnAsAValue false (.ref e)) Q E s := by
  unfold Builtin.Generator.endsTheTurnAsAValue Builtin.Generator.isStopAndMetaclass
  refine wpAny_bind (wpAny_bind (wpAny_typeOf (T := "StopIteration") ⟨_, ho, rfl⟩ ?_))
  refine wpAny_bind (wpAny_of_eq isSubtype_stop ?_)
  refine wpAny_bind (wpAny_of_eq (a := Value.type "type") (by rfl) ?_)
  refine wpAny_pure ?_
  exact wpAny_pure h
section
variable {prog : Program} {w : World} {A : Around} {R : GenEnd} {Y : Protocol} {n : Nat} {s₀ : Shared} {fs : List Frame} {s : Shared} {env : Env}
abbrev yfCode (it : Addr) : Code := .builtin "proto.yield_from" ⟨[.ref it, .bool false, .none], []⟩
theorem den_builtin {id : String} {b : Builtin} {args : Args} (hb : entryFor table id = some b) : (model prog w).den (.builtin id args) = b args := by
  show (match entryFor table id with | some b => b args | none => unsupported ((withoutEnding? id "#data").getD id)) = _
  rw [hb]
theorem den_yf (it : Addr) : (model prog w).den (yfCode it) = Builtin.«proto.yield_from» ⟨[.ref it, .bool false, .none], []⟩ := den_builtin entry_yf

theorem seg_yf_item {it l : Addr} {i : Nat} {items : Array Value} {x : Value} (hfs : splitAtGen fs = none) (hfg : fs.any Frame.guarded = false) (hit : s.heap.IsListIter it l i) (hl : s.heap.IsList l items) (hx : items[i]? = some x)
    (hY : ∀ h', h'.IsListIter it l (i + 1) → Heap.SameBut it s.heap h' → ∀ kap : Resume → Shared → Prop,
      (∀ s'' j, s''.heap.IsListIter it l j → Seg (model prog w) A R Y n s'' (yfCode it) ((model prog w).den (yfCode it)) fs s'' → kap (.send .none) s'') → Y n s₀ x { s with heap := h' } kap) :
    Seg (model prog w) A R Y (n + 1) s₀ (yfCode it) ((model prog w).den (yfCode it)) fs s := by
  rw [den_yf]
  unfold Builtin.«proto.yield_from»
  show Seg _ _ _ _ _ _ _ ((pure Value.none : Sem Value) >>= _) _ _
  refine seg_b (wpAny_pure ?_)
  dsimp only
  refine seg_b (wpAny_attempt (wpAny_holding ?_))
  rw [if_neg Bool.false_ne_true, if_pos (by decide)]
  refine wpAny_bind (wpAny_rule (wpAny_bind (next_item hit hl hx fun h' hit' hs' => ?_)))
  refine wpAny_pure ?_
  refine seg_b (wpAny_typeOf (s := { s with heap := h' }) hit'.typeIs ?_)
  refine seg_b (wpAny_of_eq no_close ?_)
  refine seg_b (wpAny_pure ?_)
  refine seg_b (slept_over hit' ?_)
  show Seg _ _ _ _ _ _ _ (Sem.yield x _ _ _) _ _
  refine seg_yield hfs rfl hfg ?_
  refine hY h' hit' hs' _ fun s'' j hj hseg => ?_
  refine seg_b (m := Builtin.Generator.sleptOver (.ref it) false) (slept_over hj ?_)
  exact seg_again (quiet_yf _) hseg

theorem seg_yf_end {k : Result → Sem Fin} {h : Option Value} {g : Bool} {lv : List Value} {c₁ : Code} {p₁ : Pos} {kp : List Value} {it l : Addr} {i : Nat} {items : Array Value} (hh : (A.over (yfCode it) (.ret k h g lv c₁ p₁ kp :: fs)).handled = none) (hit : s.heap.IsListIter it l i) (hl : s.heap.IsList l items) (hx : items[i]? = none)
    (hk : ∀ h', Heap.ExtBut it s.heap h' → Seg (model prog w) A R Y n s₀ c₁ (k (.ok (.ret .none))) fs { s with heap := h' }) :
    Seg (model prog w) A R Y n s₀ (yfCode it) ((model prog w).den (yfCode it)) (.ret k h g lv c₁ p₁ kp :: fs) s := by
  rw [den_yf]
  unfold Builtin.«proto.yield_from»
  show Seg _ _ _ _ _ _ _ ((pure Value.none : Sem Value) >>= _) _ _
  refine seg_b (wpAny_pure ?_)
  dsimp only
  refine seg_b (wpAny_attempt (wpAny_holding ?_))
  rw [if_neg Bool.false_ne_true, if_pos (by decide)]
  refine wpAny_bind (wpAny_rule (wpAny_bind (next_stop hh hit hl hx fun h' e t he ho => ?_)))
  refine seg_b (ends_turn ho ?_)
  rw [if_pos rfl, if_neg Bool.false_ne_true]
  refine seg_b (wpAny_rule ?_)
  refine seg_b (wpAny_field ho rfl (x := .none) rfl ?_)
  exact seg_leaf (.ok (.ret .none)) (hk h' he)
end
/-! where a text is cut by a needle -/
theorem At_occ {x y : List Nat} {k : Nat} : StrLaws.At (mkS x) (mkS y) (mkS x).length k ↔ occ x y k = true := (occ_at x y k).symm
theorem chain_rest {x y : List Nat} (hy : y ≠ []) {f : Nat} (hn : ∀ k, f ≤ k → ¬ StrLaws.At (mkS x) (mkS y) (mkS x).length k) : ∀ (cuts : List Nat) (a : Nat), sk (occ x y) y.length a = 0 → StrLaws.ChainG (mkS x) (mkS y) (mkS x).length a cuts f → cuts = rest x y a
  | [], a, _, h => by
    have e : f = a := h
    subst e
    rw [rest_none]
    intro k hk
    cases q : occ x y k with
    | false => rfl
    | true => exact absurd (At_occ.mpr q) (hn k hk)
  | c :: r, a, hs, h => by
    obtain ⟨h1, h2, h3, h4⟩ := h
    obtain ⟨e1, e2⟩ := rest_some hy hs h1 (At_occ.mp h2) fun j hj hj' => by
      cases q : occ x y j with
      | false => rfl
      | true => exact absurd (At_occ.mpr q) (h3 j hj hj')
    rw [e1]
    rw [mkS_length] at h4
    have := chain_rest hy hn r (c + y.length) e2 (by rw [mkS_length]; exact h4)
    rw [← this]
theorem mkS_len1 {y : List Nat} (hy : y ≠ []) : 1 ≤ (mkS y).length := by
  rw [mkS_length]
  cases y with
  | nil => exact absurd rfl hy
  | cons _ _ => simp
theorem occs_picks {x y : List Nat} (hy : y ≠ []) : Builtin.Str.occurrences (mkS x) (mkS y) 0 (mkS x).length ((mkS x).length + 1) = picks x y := by
  obtain ⟨f, hc, hn⟩ := StrLaws.occ_tight (mkS x) (mkS y) (mkS_len1 hy)
  rw [picks_rest hy]
  exact chain_rest hy hn _ 0 rfl hc
def partsL (x : List Nat) (m : Nat) : Nat → List Nat → List (List Nat)
  | a, [] => [x.drop a]
  | a, c :: r => (x.drop a).take (c - a) :: partsL x m (c + m) r
theorem strSub_mk (x : List Nat) (i j : Nat) : Builtin.Str.strSub (mkS x) i j = mkS ((x.drop i).take (j - i)) := by
  unfold Builtin.Str.strSub mkS
  congr 1
  apply Array.toList_inj.mp
  simp [Array.toList_extract]
theorem partsFrom_mk (x : List Nat) (m : Nat) : ∀ (cuts : List Nat) (a : Nat), StrLaws.partsFrom (mkS x) m a cuts = (partsL x m a cuts).map mkS
  | [], a => by
    show [Builtin.Str.strSub (mkS x) a (mkS x).length] = [mkS (x.drop a)]
    rw [strSub_mk, mkS_length, List.take_of_length_le (by simp)]
  | c :: r, a => by
    show Builtin.Str.strSub (mkS x) a c :: _ = mkS _ :: (partsL x m (c + m) r).map mkS
    rw [strSub_mk, partsFrom_mk x m r (c + m)]
theorem replace_eq {x y z : List Nat} (hy : y ≠ []) : Txt.replace (mkS x) (mkS y) (mkS z) = mkS (joinL z (partsL x y.length 0 (picks x y))) := by
  have hl := mkS_len1 hy
  unfold Txt.replace
  rw [occs_picks hy]
  have e : ((mkS y).length == 0) = false := by
    rw [beq_eq_false_iff_ne]; omega
  rw [e, Bool.false_and, Bool.or_false]
  split
  · rename_i h
    have : picks x y = [] := by simpa using h
    rw [this]
    rfl
  · rw [StrLaws.glued_eq_join, StrLaws.partsBetween_eq, mkS_length, partsFrom_mk, join_eq]

/-! the pair of signs 105, 775 written as one -/
abbrev pr : List Nat := [105, 775]
def rp : List Nat → List Nat
  | [] => []
  | [c] => [c]
  | c :: d :: r => if c = 105 ∧ d = 775 then 304 :: rp r else c :: rp (d :: r)
theorem occ_pr (x : List Nat) (k : Nat) : occ x pr k = true ↔ ∃ r, x.drop k = 105 :: 775 :: r := by
  unfold occ
  simp only [Bool.and_eq_true, decide_eq_true_eq, beq_iff_eq]
  constructor
  · rintro ⟨h1, h2⟩
    match h : x.drop k with
    | [] => rw [h] at h2; simp at h2
    | [a] => rw [h] at h2; simp at h2
    | a :: b :: r =>
      rw [h] at h2
      simp at h2
      exact ⟨r, by rw [h2.1, h2.2]⟩
  · rintro ⟨r, h⟩
    refine ⟨?_, by rw [h]; rfl⟩
    have := congrArg List.length h
    simp at this ⊢
    omega
theorem rp_skip {x : List Nat} {k : Nat} (hk : k < x.length) (h : occ x pr k = false) : rp (x.drop k) = x[k] :: rp (x.drop (k + 1)) := by
  rw [List.drop_eq_getElem_cons hk]
  match h2 : x.drop (k + 1) with
  | [] => rfl
  | d :: r =>
    show (if x[k] = 105 ∧ d = 775 then 304 :: rp r else x[k] :: rp (d :: r)) = _
    rw [if_neg]
    rintro ⟨e1, e2⟩
    have : occ x pr k = true := (occ_pr x k).mpr ⟨r, by rw [List.drop_eq_getElem_cons hk, h2, e1, e2]⟩
    rw [h] at this; cases this
theorem rp_run {x : List Nat} (a : Nat) : ∀ d, a + d ≤ x.length → (∀ k, a ≤ k → k < a + d → occ x pr k = false) → rp (x.drop a) = (x.drop a).take d ++ rp (x.drop (a + d))
  | 0, _, _ => by simp
  | d + 1, h, hn => by
    rw [rp_run a d (by omega) fun k h1 h2 => hn k h1 (by omega), rp_skip (by omega) (hn (a + d) (by omega) (by omega))]
    rw [show a + (d + 1) = a + d + 1 by omega, List.take_succ, List.getElem?_drop, List.getElem?_eq_getElem (by omega)]
    simp
theorem rp_parts {x : List Nat} {f : Nat} (hn : ∀ k, f ≤ k → ¬ StrLaws.At (mkS x) (mkS pr) (mkS x).length k) : ∀ (cuts : List Nat) (a : Nat), a ≤ x.length → StrLaws.ChainG (mkS x) (mkS pr) (mkS x).length a cuts f → joinL [304] (partsL x 2 a cuts) = rp (x.drop a)
  | [], a, ha, h => by
    have e : f = a := h
    subst e
    show x.drop f = rp (x.drop f)
    have := rp_run (x := x) f (x.length - f) (by omega) fun k h1 _ => by
      cases q : occ x pr k with
      | false => rfl
      | true => exact absurd (At_occ.mpr q) (hn k h1)
    rw [this, show f + (x.length - f) = x.length by omega, List.drop_length, List.take_of_length_le (by simp)]
    simp [rp]
  | c :: r, a, ha, h => by
    obtain ⟨h1, h2, h3, h4⟩ := h
    have ho := At_occ.mp h2
    have hle := occ_le ho
    obtain ⟨t, ht⟩ := (occ_pr x c).mp ho
    have ih := rp_parts hn r (c + 2) hle h4
    have e := rp_run (x := x) a (c - a) (by omega) fun k q1 q2 => by
      cases q : occ x pr k with
      | false => rfl
      | true => exact absurd (At_occ.mpr q) (h3 k q1 (by omega))
    rw [show a + (c - a) = c by omega] at e
    have e2 : rp (x.drop c) = 304 :: rp (x.drop (c + 2)) := by
      have : x.drop (c + 2) = t := by rw [← List.drop_drop, ht]; rfl
      rw [ht, this]
      show (if (105 : Nat) = 105 ∧ (775 : Nat) = 775 then 304 :: rp t else _) = _
      rw [if_pos ⟨rfl, rfl⟩]
    rw [e, e2, ← ih]
    show joinL [304] ((x.drop a).take (c - a) :: partsL x 2 (c + 2) r) = _
    match hp : partsL x 2 (c + 2) r with
    | [] => cases r <;> simp [partsL] at hp
    | p :: q => simp [joinL]
theorem replace_pr (x : List Nat) : Txt.replace (mkS x) (mkS pr) (mkS [304]) = mkS (rp x) := by
  rw [replace_eq (by decide)]
  obtain ⟨f, hc, hn⟩ := StrLaws.occ_tight (mkS x) (mkS pr) (mkS_len1 (by decide))
  rw [occs_picks (by decide)] at hc
  rw [show pr.length = 2 from rfl, rp_parts hn _ 0 (Nat.zero_le _) hc]
  rfl
section
variable {M : Model} {prog : Program} {w : World} {A : Around} {E : Value → Shared → Prop} {own : Mode} {names : List (Str × NameKind)} {s₀ s : Shared} {env : Env} {vars : List (Str × Value)} {nw : List (Addr × Obj)}
/-- one object of the ledger is written -/
theorem St.poke (I : St own names s₀ env vars nw s) {it : Addr} {io : Obj} (hm : (it, io) ∈ nw) {h' : Heap} {tk : Nat} (hx : ∀ b o, b ≠ it → s.heap.get? b = some o → h'.get? b = some o) {nw' : List (Addr × Obj)}
    (hsub : ∀ p ∈ nw', (p ∈ nw ∧ p.1 ≠ it) ∨ (p.1 = it ∧ h'.get? it = some p.2)) (hw : own.w = true) : St own names s₀ env vars nw' { s with heap := h', toks := tk } := by
  obtain ⟨a1, a2, a3, a4⟩ := I.news _ hm
  have hL : env.locals ≠ it := Ne.symm a3
  refine ⟨I.eo, fun b o e => hx b o (fun h => by rw [h, a2] at e; cases e) (I.heap b o e), I.os, I.bare, let ⟨m1, q⟩ := I.ns; ⟨m1, q.at' fun o e => hx _ o hL e⟩, I.fresh, fun ho n c hc => ?_, I.apart, fun z u q => ?_, fun p hp => ?_⟩
  · obtain ⟨⟨w1, o2, ho2, hd2⟩, l⟩ := I.cell ho n c hc
    exact ⟨⟨w1, o2, hx _ _ (Ne.symm (a4 ho n c hc)) ho2, hd2⟩, l⟩
  · rcases I.get z u q with ⟨k1, m1, q1, q2⟩ | ⟨k1, c, hc, o2, ho2, hd2⟩
    · exact .inl ⟨k1, m1, q1.at' fun o e => hx _ o hL e, q2⟩
    · exact .inr ⟨k1, c, hc, o2, hx _ _ (Ne.symm (a4 hw z c hc)) ho2, hd2⟩
  · rcases hsub p hp with ⟨hp, hne⟩ | ⟨he, ho⟩
    · obtain ⟨b1, b2⟩ := I.news p hp
      exact ⟨hx _ _ hne b1, b2⟩
    · rw [he]
      exact ⟨ho, a2, a3, a4⟩

theorem r_strT {x : Str} {l : List Nat} {k : Nat} {pos : Pos} {Q : Value → Shared → Prop} (I : St own names s₀ env vars nw s) (hl : x = mkS l) (h : ∀ s', St own names s₀ env vars nw s' → s'.toks = s.toks + 1 → Q (.str (mkS l) s.toks) s') :
    wpAny (model prog w) A (eval (.Constant (.str x) k pos) env) Q E s := by subst hl; exact wpAny_Constant_str (h _ (I.toks _) rfl)
theorem r_replace {x : List Nat} {t u v : Tok} {Q : Value → Shared → Prop} (I : St own names s₀ env vars nw s) (hu : u ≠ 0) (hv : v ≠ 0) (huv : u ≠ v) (hx : x.length ≤ 1000000) (h : ∀ t s', St own names s₀ env vars nw s' → Q (.str (mkS (rp x)) t) s') :
    wpAny (model prog w) A (call (.builtin "str.replace") [.str (mkS x) t, .str (mkS pr) u, .str (mkS [304]) v]) Q E s := by
  refine SC.replaceW hu hv huv (by decide) (by rw [mkS_length]; omega) (by decide) fun t' k => ?_
  rw [replace_pr]
  exact h _ _ (I.toks _)
end

section
variable {prog : Program} {w : World} {A : Around} {R : GenEnd} {Y : Protocol} {n : Nat} {s₀ : Shared} {c : Code} {fs : List Frame} {s : Shared} {env : Env}
  {K : Flow → Sem Fin} {H : Value → Sem Fin} {gd : Bool → Bool} {lv : List Value → List Value}
theorem seg_Expr_YieldFrom {e : Expr} {ypos pos : Pos} (hi : interactive env = false)
    (h : wpAny (model prog w) (A.over c fs) (eval e env) (fun v s' => ∃ l items, v = .ref l ∧ s'.heap.IsList l items ∧ ∀ p (kk : Result → Sem Fin),
      (∀ n' s₀' s₂, Seg (model prog w) A R Y n' s₀' c (K .next) fs s₂ → Seg (model prog w) A R Y n' s₀' c (kk (.ok (.ret .none))) fs s₂) →
      Seg (model prog w) A R Y n s₀ (yfCode s'.heap.objs.size) ((model prog w).den (yfCode s'.heap.objs.size)) (.ret kk none (gd false) (lv []) c p [] :: fs) { s' with heap := s'.heap.push { cls := .type "list_iterator", data := .fields #[.ref l, .int 0 0] } }) (fun _ _ => False) s) :
    Seg (model prog w) A R Y n s₀ c ((exec (.Expr (.YieldFrom e ypos) pos) env).wrap K H gd lv) fs s := by
  rw [exec_Expr env _ pos hi rfl]
  refine seg_wb (wpAny_standAt ?_)
  show Seg _ _ _ _ _ _ _ (Sem.wrap _ _ _ _ ((eval e env >>= fun v => standAt ypos >>= fun _ => yieldFrom env v) >>= fun x => dropValue (.YieldFrom e ypos) pos x)) _ _
  rw [Sem.bind_eq_wrap', Sem.wrap_wrap]
  refine seg_wb (wpAny_mono h (fun v s' h' => ?_) fun _ _ x => x)
  obtain ⟨l, items, rfl, hl, hseg⟩ := h'
  refine seg_wb (wpAny_standAt ?_)
  unfold yieldFrom
  refine seg_wb (wpAny_typeOf hl.typeIs ?_)
  rw [if_neg (by decide)]
  refine seg_wb (wpAny_holding (wpAny_pyIter_list hl ?_))
  refine seg_call fun p => hseg p _ fun n' s₀' s₂ h₂ => ?_
  exact h₂
end

/-! a comprehension whose own name is a cell -/
section
variable {prog : Program} {w : World} {A : Around} {E : Value → Shared → Prop} {R : Result → Shared → Prop} {s : Shared}

theorem cell_at {h h' : Heap} {c : Addr} {u : Option Value} (x : h.IsCell c u) (hk : ∀ o, h.get? c = some o → h'.get? c = some o) : h'.IsCell c u :=
  let ⟨o, ho, hd⟩ := x; ⟨o, hk o ho, hd⟩

theorem compLoop_C {elt iter : Expr} {x : Str} {px : Pos} {ifs : List Expr} {scope : Scope} {pos : Pos} {I D c : Addr} {fp : List Addr} {n : Nat} {P : Nat → Value → Prop} {S : Nat → Heap → Prop}
    {cenv : Env} (W : Walks prog w A I fp [I] n P S) (p : Nat → Bool) (F : Nat → Value → Prop)
    (hx : cenv.kindOf x = some .cell) (hk : cenv.scope.kind = .function) (hcc : cenv.cells.lookup x = some c)
    (hDC : D ≠ c) (hDf : D ∉ fp) (hCf : c ∉ fp) (hIC : I ∈ fp)
    (hst : S 0 s.heap) (hacc : s.heap.PlainList D #[]) (hn : s.heap.IsCell c none)
    (htests : ∀ i v s₂, i < n → P i v → s₂.heap.IsCell c (some v) → Upto c D I s s₂ →
      wpAny (model prog w) A (forIn ifs true fun c r => if r = true then do let ok ← isTrue c cenv (eval c cenv); pure (ForInStep.yield ok) else pure (ForInStep.yield r))
        (fun ok s₃ => ok = p i ∧ Ext s₂ s₃) (fun _ _ => False) s₂)
    (helt : ∀ i v s₂, i < n → P i v → p i = true → s₂.heap.IsCell c (some v) → Upto c D I s s₂ →
      wpAny (model prog w) A (eval elt cenv) (fun y s₃ => F i y ∧ Ext s₂ s₃) (fun _ _ => False) s₂)
    (hR : ∀ s' ys, s'.heap.PlainList D ys → Paired F ((List.range n).filter p) ys.toList → Upto c D I s s' → R (.ok .next) s')
    (hsz : n ≤ sizeLine) :
    codeAny (model prog w) A (.compLoop (.ListComp elt [⟨.Name x px, iter, ifs, 0⟩] scope pos) 0 (.ref I) (.ref D) cenv) R s := by
  have hDI : D ≠ I := fun h => hDf (h ▸ hIC)
  have hCI : c ≠ I := fun h => hCf (h ▸ hIC)
  refine codeAny_compLoop_tests
    (fun k s' => ∃ i u ys, i ≤ n ∧ k = n + 1 - i ∧ S i s'.heap ∧ s'.heap.PlainList D ys ∧ s'.heap.IsCell c u ∧ Paired F ((List.range i).filter p) ys.toList ∧ Upto c D I s s') ?_ (n + 1)
    ⟨0, none, #[], Nat.zero_le _, rfl, hst, hacc, hn, .nil, .refl _ _ _ _⟩
  rintro k s' ⟨i, u, ys, hi, rfl, hst', hacc', hn', hF, hu⟩
  by_cases hlt : i < n
  · refine W.item i s' _ _ hlt hst' fun v h₁ tk₁ hPv hst₁ hk₁ => ?_
    have hk₁' : ∀ b o, b ≠ I → s'.heap.get? b = some o → h₁.get? b = some o := fun b o hb e => hk₁ b o (by simpa using hb) e
    refine wpAny_assign_Name (wpAny_storeName_cell hk hx hcc (cell_at hn' fun o e => hk₁' _ o hCI e) (fun h₂ hn₂ hs₂ => ?_))
    have hu₂ : Upto c D I s { s' with heap := h₂, toks := tk₁ } := hu.step fun b o hbC hbD hbI e => hs₂.extBut b o hbC (hk₁' b o hbI e)
    have hst₂ : S (i + 1) h₂ := W.frame _ _ _ hst₁ fun b hb o e => hs₂.extBut b o (fun h => hCf (h ▸ hb)) e
    refine wpAny_mono (htests i v _ hlt hPv hn₂ hu₂) (fun ok s₃ h₃ => ?_) fun _ _ e => e.elim
    obtain ⟨rfl, x₃⟩ := h₃
    have hst₃ : S (i + 1) s₃.heap := W.frame _ _ _ hst₂ fun b _ o e => x₃.heap b o e
    have hacc₃ : s₃.heap.PlainList D ys := hacc'.at fun o e => x₃.heap _ o (hs₂.extBut _ o hDC (hk₁' _ o hDI e))
    have hn₃ := hn₂.keeps x₃.heap
    have hu₃ := hu₂.ext x₃
    cases hpv : p i with
    | false =>
      simp only [Bool.false_eq_true, if_false]
      refine ⟨n + 1 - (i + 1), by omega, i + 1, _, ys, hlt, rfl, hst₃, hacc₃, hn₃, ?_, hu₃⟩
      rw [range_succ_filter, hpv]; simpa using hF
    | true =>
      simp only [if_true]
      refine wpAny_mono (helt i v _ hlt hPv hpv hn₃ hu₃) (fun y s₄ h₄ => ?_) fun _ _ e => e.elim
      obtain ⟨hFy, x₄⟩ := h₄
      have hys : ys.size ≤ sizeLine := by
        have e1 := hF.length
        have e2 : ((List.range i).filter p).length ≤ (List.range i).length := List.length_filter_le _ _
        have e3 : (List.range i).length = i := List.length_range
        have e4 : ys.toList.length = ys.size := by simp
        omega
      refine wpAny_list_append_plain (hsz := hys) (hacc₃.at fun o e => x₄.heap _ o e) fun h₅ hl₅ hs₅ => ?_
      refine ⟨n + 1 - (i + 1), by omega, i + 1, _, ys.push y, hlt, rfl, W.frame _ _ h₅ hst₃ fun b hb o e => hs₅.extBut b o (fun h => hDf (h ▸ hb)) (x₄.heap b o e), hl₅, (hn₃.keeps x₄.heap).sameBut hs₅ (Ne.symm hDC), ?_, (hu₃.ext x₄).step (tk := s₄.toks) fun b o hbC hbD hbI e => hs₅.extBut b o hbD e⟩
      rw [range_succ_filter, hpv]; simpa using Paired.snoc hF hFy
  · have hin : i = n := by omega
    subst hin
    refine W.done _ _ _ hst' fun h₁ tk₁ hk₁ => ?_
    have hk₁' : ∀ b o, b ≠ I → s'.heap.get? b = some o → h₁.get? b = some o := fun b o hb e => hk₁ b o (by simpa using hb) e
    exact hR _ ys (hacc'.at fun o e => hk₁' _ o hDI e) hF (hu.step fun b o hbC hbD hbI e => hk₁' b o hbI e)

theorem newEnv_C {scope : Scope} {globals : Addr} {closure : List (Str × Addr)} {qual : Str} {env : Env} {Q : Env → Shared → Prop}
    (hQ : Q (newEnv scope s.heap.objs.size globals (cellsFrom (s.heap.objs.size + 1) scope.names closure) qual none .none (some env) builtinsNs) { s with heap := pushCells (s.heap.push { cls := .type "dict", data := .dict #[] }) scope.names }) :
    wpAny (model prog w) A (newFunctionEnv scope globals closure [] qual none .none (some env)) Q E s := by
  simp only [newFunctionEnv, Option.isSome_some, if_true]
  refine wpAny_bind (wpAny_alloc ?_)
  refine wpAny_bind (wpAny_layCells _ (fun name kind cells => by cases hkc : kind == NameKind.cell <;> simp [hkc]) _ _ _ _ ?_)
  rw [show ({ s with heap := s.heap.push { cls := .type "dict", data := .dict #[] } } : Shared).heap.objs.size = s.heap.objs.size + 1 from Heap.size_push ..]
  rw [List.forIn_nil]
  exact wpAny_bind (wpAny_pure (wpAny_pure hQ))

theorem cellsFrom_append : ∀ (names : List (Str × NameKind)) (n : Nat) (acc : List (Str × Addr)), cellsFrom n names acc = cellsFrom n names [] ++ acc
  | [], _, _ => rfl
  | (y, k) :: r, n, acc => by
    unfold cellsFrom
    split
    · rw [cellsFrom_append r (n + 1) ((y, n) :: acc), cellsFrom_append r (n + 1) [(y, n)], List.append_assoc]; rfl
    · exact cellsFrom_append r n acc

/-- the whole block behind the iterator -/
theorem compBlock_C {env : Env} {elt iter : Expr} {x : Str} {px : Pos} {ifs : List Expr} {scope : Scope} {cl : List (Str × Addr)} {pos : Pos} {s₁ s₂ : Shared} {I : Addr} {fp : List Addr} {n : Nat} {P : Nat → Value → Prop}
    {S : Nat → Heap → Prop} (W : Walks prog w A I fp [I] n P S) (hsz : n ≤ sizeLine) (p : Nat → Bool) (F : Nat → Value → Prop) {RR : Value → Addr → Result → Shared → Prop}
    (hcell : ∀ y ∈ scope.names, y.2 = .cell → y.1 = x) (hkind : scope.kind = .function) (hx : scope.names.lookup x = some .cell) (hxr : (relabel scope env).names.lookup x = some .cell) (hst : S 0 s₂.heap) (hfp : ∀ b ∈ fp, b < s₂.heap.objs.size) (hIf : I ∈ fp)
    (hx₁ : Ext s₁ s₂) (hI₁ : s₁.heap.get? I = none)
    (htests : ∀ C c cs i v s₃ m₃, s₁.heap.get? C = none → cs.lookup x = some c → (∀ z, z ≠ x → cs.lookup z = cl.lookup z) → i < n → P i v → s₃.heap.Ns C m₃ → s₃.heap.IsCell c (some v) → Ext s₁ s₃ →
      wpAny (model prog w) A (forIn ifs true fun c r => if r = true then do let ok ← isTrue c (compEnvC scope cs C env) (eval c (compEnvC scope cs C env)); pure (ForInStep.yield ok) else pure (ForInStep.yield r))
        (fun ok s₄ => ok = p i ∧ Ext s₃ s₄) (fun _ _ => False) s₃)
    (helt : ∀ C c cs i v s₃ m₃, s₁.heap.get? C = none → cs.lookup x = some c → (∀ z, z ≠ x → cs.lookup z = cl.lookup z) → i < n → P i v → p i = true → s₃.heap.Ns C m₃ → s₃.heap.IsCell c (some v) → Ext s₁ s₃ →
      wpAny (model prog w) A (eval elt (compEnvC scope cs C env)) (fun y s₄ => F i y ∧ Ext s₃ s₄) (fun _ _ => False) s₃)
    (hRR : ∀ D C s' m' ys, s₁.heap.get? D = none → s₁.heap.get? C = none → D ≠ C → s'.heap.Ns C m' → s'.heap.PlainList D ys → Paired F ((List.range n).filter p) ys.toList → Ext s₁ s' → RR (.ref D) C (.ok .next) s') :
    wpAny (model prog w) A (newList []) (fun acc s₃ => wpAny (model prog w) A (newFunctionEnv scope env.globals cl [] env.qual none .none (some env)) (fun cenv s₄ =>
      codeAny (model prog w) A (.compStart (.ListComp elt [⟨.Name x px, iter, ifs, 0⟩] scope pos) 0 (.ref I) acc { cenv with scope := relabel scope env }) (RR acc cenv.locals) s₄) E s₃) E s₂ := by
  refine wpAny_newObj_type (newEnv_C ?_)
  dsimp only
  generalize hH2 : s₂.heap.push { cls := .type "list", dict := none, data := .seq ([] : List Value).toArray } = H2
  have hC : H2.objs.size = s₂.heap.objs.size + 1 := by rw [← hH2, Heap.size_push]
  have hH3 : (H2.push { cls := .type "dict", data := .dict #[] }).objs.size = H2.objs.size + 1 := Heap.size_push ..
  have ok := cellsFrom_ok scope.names (H2.push { cls := .type "dict", data := .dict #[] }) (H2.objs.size + 1) [] ⟨fun _ _ hm => (nomatch hm), List.Pairwise.nil⟩ (by rw [hH3]; exact Nat.le_refl _)
  rw [hH3] at ok
  have hns₁ : (pushCells (H2.push { cls := .type "dict", data := .dict #[] }) scope.names).Ns H2.objs.size (fun _ => none) := (Heap.Ns.new H2 (.type "dict")).keeps (pushCells_keeps _ _)
  have hkp : ∀ b o, H2.get? b = some o → (pushCells (H2.push { cls := .type "dict", data := .dict #[] }) scope.names).get? b = some o := fun b o e => pushCells_keeps _ _ b o (Heap.get?_push_of_some _ e)
  generalize hH : pushCells (H2.push { cls := .type "dict", data := .dict #[] }) scope.names = h₁ at ok hns₁ hkp ⊢
  have hsome := cellsFrom_some (x := x) scope.names (H2.objs.size + 1) [] (.inl hx)
  obtain ⟨c, hc⟩ := Option.isSome_iff_exists.mp hsome
  obtain ⟨hce, hcl⟩ := ok.empty x c (mem_of_lookup hc)
  generalize hcs : cellsFrom (H2.objs.size + 1) scope.names cl = cs
  have hcs1 : cs.lookup x = some c := by rw [← hcs, cellsFrom_append, List.lookup_append, hc]; rfl
  have hcs2 : ∀ z, z ≠ x → cs.lookup z = cl.lookup z := fun z hz => by
    rw [← hcs, cellsFrom_append, List.lookup_append]
    cases q : (cellsFrom (H2.objs.size + 1) scope.names []).lookup z with
    | none => rfl
    | some c' =>
      exfalso
      rcases cellsFrom_kind _ _ _ (mem_of_lookup q) with q | q
      · exact hz (hcell _ q rfl)
      · cases q
  have hDC : s₂.heap.objs.size ≠ H2.objs.size := by rw [hC]; exact Nat.ne_of_lt (Nat.lt_succ_self _)
  have hcC : H2.objs.size < c := hcl
  have hDc : s₂.heap.objs.size ≠ c := Nat.ne_of_lt (Nat.lt_trans (by rw [hC]; exact Nat.lt_succ_self _) hcC)
  have below : ∀ b o, s₁.heap.get? b = some o → b ≠ c ∧ b ≠ s₂.heap.objs.size ∧ b ≠ I := fun b o e => by
    have := Heap.lt_size (hx₁.heap b o e)
    exact ⟨Nat.ne_of_lt (Nat.lt_trans this (Nat.lt_of_le_of_lt (by rw [hC]; exact Nat.le_succ _) hcC)), Nat.ne_of_lt this, fun h => by subst h; rw [hI₁] at e; cases e⟩
  have hDf : s₂.heap.objs.size ∉ fp := fun hm => Nat.lt_irrefl _ (hfp _ hm)
  have hCf : c ∉ fp := fun hm => Nat.lt_irrefl _ (Nat.lt_trans (hfp _ hm) (Nat.lt_of_le_of_lt (by rw [hC]; exact Nat.le_succ _) hcC))
  have old : ∀ b o, s₂.heap.get? b = some o → h₁.get? b = some o := fun b o e => hkp b o (hH2 ▸ Heap.get?_push_of_some _ e)
  have hacc : h₁.PlainList s₂.heap.objs.size #[] := ⟨_, hkp _ _ (hH2 ▸ Heap.get?_push_size _ rfl)⟩
  have hst₁ : S 0 h₁ := W.frame _ _ _ hst fun b _ o e => old b o e
  have fresh : ∀ a, s₂.heap.objs.size ≤ a → s₁.heap.get? a = none := fun a ha => by
    cases e : s₁.heap.get? a with
    | none => rfl
    | some o' => exact absurd (Heap.lt_size (hx₁.heap a o' e)) (Nat.not_lt.mpr ha)
  have hC₁ : s₁.heap.get? H2.objs.size = none := fresh _ (by rw [hC]; exact Nat.le_succ _)
  have hCI : H2.objs.size ≠ I := fun h => by have := hfp _ hIf; rw [← h, hC] at this; exact Nat.lt_irrefl _ (Nat.lt_of_succ_lt this)
  have up : ∀ {s₃ s₄ : Shared}, s₃ = { s₂ with heap := h₁ } → Upto c s₂.heap.objs.size I s₃ s₄ → Ext s₁ s₄ ∧ s₄.heap.Ns H2.objs.size (fun _ => none) := by
    rintro s₃ s₄ rfl hu
    refine ⟨⟨fun b o e => hu.heap b o (below b o e).1 (below b o e).2.1 (below b o e).2.2 (old b o (hx₁.heap b o e)), hu.os.trans hx₁.os, fun h => hu.bare (hx₁.bare h)⟩, ?_⟩
    exact hns₁.at' fun o e => hu.heap _ o (Nat.ne_of_lt hcC) (Ne.symm hDC) hCI e
  have loop : ∀ s₃ : Shared, s₃ = { s₂ with heap := h₁ } →
      codeAny (model prog w) A (.compLoop (.ListComp elt [⟨.Name x px, iter, ifs, 0⟩] scope pos) 0 (.ref I) (.ref s₂.heap.objs.size) (compEnvC scope cs H2.objs.size env))
        (RR (.ref s₂.heap.objs.size) H2.objs.size) s₃ := by
    rintro s₃ hs₃
    refine compLoop_C (hsz := hsz) (cenv := compEnvC scope cs H2.objs.size env) (c := c) W p F hxr hkind hcs1 hDc hDf hCf hIf (by subst hs₃; exact hst₁) (by subst hs₃; exact hacc) (by subst hs₃; exact hce)
      (fun i v s₄ hi hv hn hu => htests _ c cs i v s₄ _ hC₁ hcs1 hcs2 hi hv (up hs₃ hu).2 hn (up hs₃ hu).1)
      (fun i v s₄ hi hv hpv hn hu => helt _ c cs i v s₄ _ hC₁ hcs1 hcs2 hi hv hpv (up hs₃ hu).2 hn (up hs₃ hu).1) fun s' ys ha hF hu => ?_
    exact hRR _ _ s' _ ys (fresh _ (Nat.le_refl _)) hC₁ hDC (up hs₃ hu).2 ha hF (up hs₃ hu).1
  exact codeAny_compStart_list (loop _ rfl) (W.self 0 _ _ _ hst₁ (loop _ rfl))

theorem relN_cell' {cn names : List (Str × NameKind)} {x : Str} (h : (relN cn names).lookup x = some .cell) : ((x, .free) ∈ cn ∧ names.lookup x = some .cell) ∨ (x, .cell) ∈ cn := by
  unfold relN at h
  induction cn with
  | nil => cases h
  | cons p r ih =>
    obtain ⟨n, k⟩ := p
    simp only [List.map_cons] at h
    by_cases hk : (k == .free && names.lookup n == some .cell) = true
    · rw [if_pos hk, List.lookup_cons] at h
      cases hb : x == n with
      | true =>
        have e := beq_iff_eq.mp hb
        subst e
        rw [Bool.and_eq_true] at hk
        have h1 : k = .free := by simpa using hk.1
        have h2 : names.lookup x = some .cell := by simpa using hk.2
        subst h1
        exact .inl ⟨.head _, h2⟩
      | false =>
        rw [hb] at h
        exact (ih h).imp (fun ⟨a, b⟩ => ⟨.tail _ a, b⟩) fun a => .tail _ a
    · rw [if_neg hk, List.lookup_cons] at h
      cases hb : x == n with
      | true =>
        rw [hb] at h; cases h
        rw [beq_iff_eq.mp hb]
        exact .inr (.head _)
      | false =>
        rw [hb] at h
        exact (ih h).imp (fun ⟨a, b⟩ => ⟨.tail _ a, b⟩) fun a => .tail _ a
theorem relN_self {names : List (Str × NameKind)} {x : Str} : ∀ {cn : List (Str × NameKind)}, cn.lookup x = some .cell → (relN cn names).lookup x = some .cell
  | [], h => by cases h
  | (n, k) :: r, h => by
    rw [List.lookup_cons] at h
    unfold relN
    rw [List.map_cons]
    cases hb : x == n with
    | true =>
      rw [hb] at h; cases h
      rw [if_neg (fun q => by simp at q), List.lookup_cons, hb]
    | false =>
      rw [hb] at h
      have ih := relN_self (names := names) (cn := r) h
      split <;> (rw [List.lookup_cons, hb]; exact ih)

structure ScOkC (scope : Scope) (names : List (Str × NameKind)) (x : Str) : Prop where
  kind : scope.kind = .function
  cell : ∀ y ∈ scope.names, y.2 = .cell → y.1 = x
  loc : ∀ y ∈ scope.names, y.2 = .local → scope.names.lookup y.1 = some .local
  hx : scope.names.lookup x = some .cell
  free : ∀ y ∈ scope.names, y.2 = .free → names.lookup y.1 = some .cell
def scOkC (scope : Scope) (names : List (Str × NameKind)) (x : Str) : Bool :=
  decide (scope.kind = .function) && (scope.names.all fun y => decide (y.2 = .cell → y.1 = x)) && (scope.names.all fun y => decide (y.2 = .local → scope.names.lookup y.1 = some .local)) && decide (scope.names.lookup x = some .cell) &&
    (scope.names.all fun y => decide (y.2 = .free → names.lookup y.1 = some .cell))
theorem scOkC_is {scope : Scope} {names : List (Str × NameKind)} {x : Str} (h : scOkC scope names x = true) : ScOkC scope names x := by
  unfold scOkC at h
  simp only [Bool.and_eq_true] at h
  obtain ⟨⟨⟨⟨h1, h2⟩, h3⟩, h4⟩, h5⟩ := h
  exact ⟨of_decide_eq_true h1, fun y hy => of_decide_eq_true (List.all_eq_true.mp h2 y hy), fun y hy => of_decide_eq_true (List.all_eq_true.mp h3 y hy), of_decide_eq_true h4, fun y hy => of_decide_eq_true (List.all_eq_true.mp h5 y hy)⟩

theorem st_compC {own : Mode} {names : List (Str × NameKind)} {s₀ s₁ s₃ : Shared} {env : Env} {vars : List (Str × Value)} {nw : List (Addr × Obj)} {scope : Scope} {x : Str} {C c : Addr} {cs : List (Str × Addr)} {m₃ : Str → Option Value} {v : Value}
    (I : St own names s₀ env vars nw s₁) (O : ScOkC scope names x) (hc1 : cs.lookup x = some c) (hc2 : ∀ z, z ≠ x → cs.lookup z = (clos env.cells scope.names []).lookup z) (hn : s₃.heap.Ns C m₃) (hv : s₃.heap.IsCell c (some v)) (e : Ext s₁ s₃) (hm : own.fix = none := by rfl) :
    St cp (relN scope.names names) s₁ (compEnvC scope cs C env) ((x, v) :: capt scope.names names vars) [] s₃ := by
  have hfree : ∀ y ∈ scope.names, y.2 = .free → (env.cells.lookup y.1).isSome = true := fun y hy hk => I.eo.cells y.1 (O.free y hy hk)
  have L := clos_lookup (cells := env.cells) scope.names [] (fun _ _ q => nomatch q) hfree
  have V : EnvOk (relN scope.names names) (compEnvC scope cs C env) := by
    refine ⟨O.kind, relabel_names I.eo, I.eo.globals, I.eo.builtins, fun y hy => ?_⟩
    show (cs.lookup y).isSome = true
    by_cases hyx : y = x
    · rw [hyx, hc1]; rfl
    · rw [hc2 y hyx]
      rcases relN_cell' hy with q | q
      · exact L.2 y (.inl q.1)
      · exact absurd (O.cell _ q rfl) hyx
  refine ⟨V, e.heap, e.os, e.bare (by have := I.bare; unfold GOk at this; rw [hm] at this; exact this), ⟨_, hn⟩, (fun q => by cases q), (fun q => by cases q), (fun q => by cases q), fun y u hy => ?_, (fun p hp => by cases hp)⟩
  rw [List.lookup_cons] at hy
  cases hb : y == x with
  | true =>
    rw [hb] at hy; cases hy
    rw [beq_iff_eq.mp hb]
    exact .inr ⟨(V.kindOf x).trans (relN_self O.hx), c, hc1, hv⟩
  | false =>
    rw [hb] at hy
    have hyx : y ≠ x := by simpa using hb
    obtain ⟨h1, h2⟩ := capt_get hy
    rcases relN_cell' h2 with ⟨h3, h4⟩ | q
    · rcases I.get y u h1 with ⟨k, _⟩ | ⟨k, c, hc, hw⟩
      · rw [I.eo.kindOf y, h4] at k; cases k
      · refine .inr ⟨(V.kindOf y).trans h2, c, ?_, hw.keeps e.heap⟩
        obtain ⟨c', hc'⟩ := Option.isSome_iff_exists.mp (L.2 y (.inl h3))
        have := L.1 y c' hc'
        rw [hc] at this; cases this
        exact (hc2 y hyx).trans hc'
    · exact absurd (O.cell _ q rfl) hyx
end
section
variable {prog : Program} {w : World} {A : Around} {E : Value → Shared → Prop} {own : Mode} {names : List (Str × NameKind)} {s₀ s : Shared} {env : Env} {vars : List (Str × Value)} {nw : List (Addr × Obj)}
theorem r_compC {elt iter : Expr} {x : Str} {px : Pos} {ifs : List Expr} {scope : Scope} {pos : Pos} {Q : Value → Shared → Prop} (I₀ : St own names s₀ env vars nw s) (hm : own.fix = none)
    (O : scOkC scope names x = true) (hs : ∀ x, foldedSetIterable iter env x = pure x)
    (h : wpAny (model prog w) A (eval iter env) (fun xv s₁ => ∃ vars₁ nw₁ n P deps p F, St own names s₀ env vars₁ nw₁ s₁ ∧ Src prog w A xv s₁ n P deps ∧ n ≤ sizeLine ∧ CompOn prog w A names vars₁ scope x ifs elt s₁ n P p F ∧
      (∀ D ys k s', (∀ q ∈ nw₁, q.1 ≠ D) → St own names s₀ env vars₁ ((D, listObj ys k) :: nw₁) s' → Ext s₁ s' → Paired F ((List.range n).filter p) ys.toList → Q (.ref D) s')) E s) :
    wpAny (model prog w) A (eval (.ListComp elt [⟨.Name x px, iter, ifs, 0⟩] scope pos) env) Q E s := by
  have O' := scOkC_is O
  have hfree : ∀ y ∈ scope.names, y.2 = .free → (env.cells.lookup y.1).isSome = true := fun y hy hk => I₀.eo.cells y.1 (O'.free y hy hk)
  rw [eval_ListComp]
  refine wpAny_comprehension_free (use := none) rfl hs (closureFor_eq hfree) O'.kind O'.loc (wpAny_mono h (fun xv s₁ h₁ => ?_) fun _ _ e => e)
  obtain ⟨vars₁, nw₁, n, P, deps, p, F, I, src, hsz, C, hQ⟩ := h₁
  refine src _ _ fun Ia fp S s₂ W hst hfp hIf _ hx₁ hI₁ _ => ?_
  refine compBlock_C (RR := fun acc C => compPost (model prog w) A E none Q acc C) (s₁ := s₁) W hsz p F O'.cell O'.kind O'.hx (by rw [relabel_names I₀.eo]; exact relN_self O'.hx) hst hfp hIf hx₁ hI₁
    (fun Ca c cs i v s₃ m₃ hC h1 h2 hi hP hn hm' e => C.tests _ i v s₃ hi hP e (st_compC I O' h1 h2 hn hm' e hm).rebase)
    (fun Ca c cs i v s₃ m₃ hC h1 h2 hi hP hp hn hm' e => C.elt _ i v s₃ hi hP hp e (st_compC I O' h1 h2 hn hm' e hm).rebase) ?_
  intro D Ca s' m' ys hD hC hDC hn hl hF e
  refine ⟨m', hn, fun h'' hs'' => ?_⟩
  have e' : Ext s₁ { s' with heap := h'' } := ⟨fun b o q => hs''.extBut b o (by rintro rfl; rw [hC] at q; cases q) (e.heap b o q), e.os, e.bare⟩
  obtain ⟨k, hk⟩ := st_list (D := D) (ys := ys) I e' hD (hl.extBut hs''.extBut hDC) hm
  exact hQ D ys k _ (fun q hq h => by rw [← h, (I.news q hq).1] at hD; cases hD) hk e' hF
end
theorem ints_of : ∀ {ns : List Int} {vs : List Value}, Paired VI ns vs → IntsAre vs ns
  | _, _, .nil => .nil
  | _, _, .cons h t => by
    obtain ⟨u, rfl⟩ := h
    exact .cons _ _ (ints_of t)
theorem of_ints : ∀ {ns : List Int} {vs : List Value}, IntsAre vs ns → Paired VI ns vs
  | _, _, .nil => .nil
  | _, _, .cons n u h => .cons ⟨u, rfl⟩ (of_ints h)
section
variable {prog : Program} {w : World} {A : Around} {E : Value → Shared → Prop} {own : Mode} {names : List (Str × NameKind)} {s₀ s : Shared} {env : Env} {vars : List (Str × Value)} {nw : List (Addr × Obj)}
theorem r_sorted {l : Addr} {ys : Array Value} {k : Nat} {ns : List Int} {Q : Value → Shared → Prop} (I : St own names s₀ env vars nw s) (hl : Held s₀ nw l (listObj ys k)) (hp : Paired VI ns ys.toList) (h64 : ns.length < 64)
    (h : ∀ D ys' k' ns' s', (∀ q ∈ nw, q.1 ≠ D) → Paired VI ns' ys'.toList → ns'.Perm ns → ns'.Pairwise (· ≤ ·) → St own names s₀ env vars ((D, listObj ys' k') :: nw) s' → Q (.ref D) s') :
    wpAny (model prog w) A (call (.builtin "sorted") [.ref l]) Q E s := by
  refine sorted_ints (vs := ys.toList) (isList_of (hl.get I)) (ints_of hp) (by rw [← hp.length]; exact h64) fun out ns' a1 a2 a3 => ?_
  obtain ⟨e, he⟩ := sortedAll_at s.heap ys.toList out
  have hk : ∀ b o, s.heap.get? b = some o → (sortedAll s.heap ys.toList out).get? b = some o := fun _ _ => sortedAll_old
  have hno : s.heap.get? (s.heap.objs.size + 1) = none := by
    cases q : s.heap.get? (s.heap.objs.size + 1) with
    | none => rfl
    | some o => exact absurd (Heap.lt_size q) (Nat.not_lt.mpr (Nat.le_succ _))
  have J : St own names s₀ env vars nw { s with heap := sortedAll s.heap ys.toList out } := I.grow hk rfl I.bare
  refine h _ out e ns' _ (fun q hq h => ?_) (of_ints a1) a2 a3 (I.more J he hno)
  have := (I.news q hq).1
  rw [h, hno] at this; cases this
theorem r_notin {l : Addr} {ys : Array Value} {k : Nat} {ns : List Int} {x : Int} {t : Tok} {Q : Value → Shared → Prop} (I : St own names s₀ env vars nw s) (hl : Held s₀ nw l (listObj ys k)) (hp : Paired VI ns ys.toList)
    (h : Q (.bool (decide (x ∉ ns))) s) : wpAny (model prog w) A (compareOp .NotIn (.int x t) (.ref l)) Q E s := by
  refine notin_list_ints (vs := ys.toList) (isList_of (hl.get I)) (ints_of hp) ?_
  have : (!(ns.any (· == x))) = decide (x ∉ ns) := by
    rw [Bool.eq_iff_iff]; simp
    constructor
    · intro h hx; exact h x hx rfl
    · rintro h y hy rfl; exact h hy
  rw [this]; exact h
end
set_option maxRecDepth 100000
theorem slot_bytes_find : Slot "bytes" "find" "bytes.find" :=
  .of (owner := "bytes") (n := "find") (by rw [typeLookup_type, builtinLookup_eq_fast]; kernel_rfl) (by decide +kernel) (by decide +kernel) (by decide +kernel)
    (by first | exact .inl (by decide +kernel) | exact .inr (by decide +kernel)) (by rw [isSubtype_type]; kernel_rfl)
theorem type_bytes_find : typeOf (.builtin "bytes.find") = pure (.type "method_descriptor") := by show builtinType _ = _; rw [builtinType_eq_fast]; kernel_rfl
theorem entry_bytes_find : entryFor table "bytes.find" = some Builtin.«bytes.find» := entryFor_of_tree (by kernel_rfl)
theorem args_bytes_find (a b c : Value) : argsOk "bytes.find" ⟨[a, b, c], []⟩ := by
  unfold argsOk; rw [signature?_of (id := "bytes.find") (n := ['d', 'n', 'i', 'f']) (o := ['s', 'e', 't', 'y', 'b']) (by kernel_rfl) FB.owner_bytes]; kernel_rfl
/-- where the octets lie, from place `n` on -/
def bfind (b c : Array UInt8) (n : Nat) : Option Nat := if (b.size : Int) - n < c.size then none else Builtin.Bytes.find? b c n b.size
theorem gives_bytes_find (b c : Array UInt8) (n : Nat) (t u v : Tok) : Gives (Builtin.«bytes.find» ⟨[.bytes b t, .bytes c u, .int (n : Int) v], []⟩) (.int (match bfind b c n with | some k => (k : Int) | none => -1)) := by
  refine .of_wp fun M A E s Q hq => ?_
  show wpAny M A (Builtin.Bytes.searchArgs .bytes "find" ⟨[.bytes b t, .bytes c u, .int (n : Int) v], []⟩ >>= fun r => _) _ E s
  refine wpAny_bind ?_
  unfold Builtin.Bytes.searchArgs
  refine wpAny_bind (wpAny_of_eq (a := (Value.bytes b t, [Value.bytes c u, Value.int (n : Int) v])) rfl ?_)
  refine wpAny_bind ?_
  show wpAny M A (Builtin.Bytes.bound? (some (.int (n : Int) v))) _ E s
  unfold Builtin.Bytes.bound?
  refine wpAny_bind (wpAny_specialOf (typeIs_int s (n : Int) v) F.slot_int_index.lookup ?_)
  refine wpAny_bind (wpAny_of_eq (a := (n : Int)) rfl ?_)
  refine wpAny_pure ?_
  refine wpAny_bind (wpAny_of_eq (a := none) rfl ?_)
  show wpAny M A (Builtin.Bytes.buffer? _ (.bytes c u) >>= fun r => _) _ E s
  refine wpAny_bind (wpAny_of_eq KBy.buffer_eq ?_)
  refine wpAny_bind (wpAny_pure ?_)
  refine wpAny_bind (wpAny_of_eq (a := b) rfl ?_)
  have hw : Builtin.Bytes.window b.size (some (n : Int)) none = ((n : Int), (b.size : Int)) := by
    unfold Builtin.Bytes.window
    simp only [Option.getD_some, Option.getD_none]
    rw [if_neg (by omega), if_neg (by omega)]
    simp
  rw [hw]
  refine wpAny_pure ?_
  have hb : bfind b c n = (if (b.size : Int) - n < c.size then none else some ((n : Int).toNat, (b.size : Int).toNat)).bind (fun x => Builtin.Bytes.find? b c x.1 x.2) := by
    unfold bfind
    split <;> rfl
  rw [hb] at hq
  generalize (if (b.size : Int) - n < c.size then none else some ((n : Int).toNat, (b.size : Int).toNat)) = wn at hq ⊢
  show wpAny M A (match wn.bind (fun x => Builtin.Bytes.find? b c x.1 x.2) with | some i => retInt i | none => (do rule _; retInt (-1))) _ E s
  cases q : wn.bind (fun x => Builtin.Bytes.find? b c x.1 x.2) with
  | none =>
    rw [q] at hq
    exact wpAny_bind (wpAny_rule (wpAny_bind (wpAny_mkInt (wpAny_pure ⟨_, rfl, hq⟩))))
  | some i =>
    rw [q] at hq
    exact wpAny_bind (wpAny_mkInt (wpAny_pure ⟨_, rfl, hq⟩))

/-! octets as a list of numbers -/
def mkB (l : List Nat) : Array UInt8 := (l.map fun n => n.toUInt8).toArray
def Octs (l : List Nat) : Prop := ∀ c ∈ l, c < 256
theorem mkB_size (l : List Nat) : (mkB l).size = l.length := by simp [mkB]
theorem byteArr_mk (l : List Nat) : byteArr (l.map fun (k : Nat) => (k : Int)) = mkB l := by
  unfold byteArr mkB
  rw [List.map_map]
  rfl
theorem u8_back : ∀ {l : List Nat}, Octs l → (l.map fun n => n.toUInt8).map UInt8.toNat = l := by
  intro l h
  rw [List.map_map]
  refine Eq.trans (List.map_congr_left fun c hc => ?_) (List.map_id l)
  have := h c hc
  simp [Nat.mod_eq_of_lt this]
theorem u8_inj {a b : List Nat} (ha : Octs a) (hb : Octs b) : ((a.map fun n => n.toUInt8) = (b.map fun n => n.toUInt8)) ↔ a = b :=
  ⟨fun h => by rw [← u8_back ha, ← u8_back hb, h], fun h => by rw [h]⟩
theorem octs_sub {l a : List Nat} (h : Octs l) (hs : ∀ c ∈ a, c ∈ l) : Octs a := fun c hc => h c (hs c hc)
theorem extract_eq {x y : List Nat} (hx : Octs x) (hy : Octs y) (i : Nat) : ((mkB x).extract i (i + (mkB y).size) == mkB y) = ((x.drop i).take y.length == y) := by
  rw [Bool.eq_iff_iff, beq_iff_eq, beq_iff_eq, mkB_size]
  unfold mkB
  rw [List.extract_toArray, List.extract_eq_take_drop, show i + y.length - i = y.length by omega]
  constructor
  · intro h
    have := congrArg Array.toList h
    simp only at this
    rw [← List.map_drop, ← List.map_take] at this
    exact (u8_inj (octs_sub hx fun c hc => List.mem_of_mem_drop (List.mem_of_mem_take hc)) hy).mp this
  · intro h
    rw [← List.map_drop, ← List.map_take, h]
theorem find_range (p : Nat → Bool) (a : Nat) : ∀ m : Nat, match ((List.range m).map (· + a)).find? p with
    | none => ∀ k, a ≤ k → k < a + m → p k = false
    | some k => a ≤ k ∧ k < a + m ∧ p k = true ∧ ∀ j, a ≤ j → j < k → p j = false
  | 0 => by simp; omega
  | m + 1 => by
    have ih := find_range p a m
    rw [List.range_succ, List.map_append, List.find?_append]
    cases q : ((List.range m).map (· + a)).find? p with
    | some k =>
      rw [q] at ih
      simp only [Option.some_or]
      exact ⟨ih.1, by omega, ih.2.2⟩
    | none =>
      rw [q] at ih
      simp only [Option.none_or, List.map_cons, List.map_nil, List.find?_cons, List.find?_nil] at ih ⊢
      cases r : p (m + a) with
      | true =>
        simp only
        exact ⟨by omega, by omega, r, fun j h1 h2 => ih j h1 (by omega)⟩
      | false =>
        simp only
        intro k h1 h2
        by_cases hk : k < a + m
        · exact ih k h1 hk
        · rw [show k = m + a by omega]; exact r
section
variable {prog : Program} {w : World} {A : Around} {E : Value → Shared → Prop} {own : Mode} {names : List (Str × NameKind)} {s₀ s : Shared} {env : Env} {vars : List (Str × Value)} {nw : List (Addr × Obj)}
theorem r_bfind {x y : List Nat} {i : Int} {n : Nat} {t u v : Tok} {Q : Value → Shared → Prop} (hx : Octs x) (hy : Octs y) (I : St own names s₀ env vars nw s) (hi : i = (n : Int))
    (hnone : (∀ k, n ≤ k → occ x y k = false) → ∀ t s', St own names s₀ env vars nw s' → Q (.int (-1) t) s')
    (hsome : ∀ k, n ≤ k → occ x y k = true → (∀ j, n ≤ j → j < k → occ x y j = false) → ∀ t s', St own names s₀ env vars nw s' → Q (.int (k : Int) t) s') :
    wpAny (model prog w) A (call (.builtin "bytes.find") [.bytes (mkB x) t, .bytes (mkB y) u, .int i v]) Q E s := by
  subst hi
  refine call_meets slot_bytes_find (typeIs_bytes _ _ _) entry_bytes_find (args_bytes_find _ _ _) (gives_bytes_find _ _ _ _ _ _).meets ?_
  have big : ∀ k, ¬ k + y.length ≤ x.length → occ x y k = false := fun k hk => by unfold occ; simp; omega
  unfold bfind
  rw [mkB_size, mkB_size]
  by_cases hs : (x.length : Int) - n < y.length
  · rw [if_pos hs]
    exact hnone (fun k hk => big k (by omega)) _ _ (I.toks _)
  · rw [if_neg hs]
    have hp : (fun i => (mkB x).extract i (i + (mkB y).size) == mkB y) = fun i => ((x.drop i).take y.length == y) := funext fun i => extract_eq hx hy i
    unfold Builtin.Bytes.find?
    rw [hp, mkB_size]
    have key := find_range (fun i => ((x.drop i).take y.length == y)) n (x.length + 1 - (n + y.length))
    have small : ∀ k, k + y.length ≤ x.length → occ x y k = ((x.drop k).take y.length == y) := fun k hk => by unfold occ; rw [decide_eq_true hk, Bool.true_and]
    cases q : ((List.range (x.length + 1 - (n + y.length))).map (· + n)).find? (fun i => ((x.drop i).take y.length == y)) with
    | none =>
      rw [q] at key
      refine hnone (fun k hk => ?_) _ _ (I.toks _)
      by_cases hb : k + y.length ≤ x.length
      · rw [small k hb]; exact key k hk (by omega)
      · exact big k hb
    | some k =>
      rw [q] at key
      obtain ⟨k1, k2, k3, k4⟩ := key
      refine hsome k k1 (by rw [small k (by omega)]; exact k3) (fun j h1 h2 => ?_) _ _ (I.toks _)
      rw [small j (by omega)]; exact k4 j h1 h2
theorem gm_bfind {M : Model} {b : Array UInt8} {t : Tok} {pl : Sem Bool} {Q : Value × List Value → Shared → Prop} (h : Q (.builtin "bytes.find", [.bytes b t]) s) : wpAny M A (getMethod (.bytes b t) "find" pl) Q E s :=
  KBd.method_of (.bytes b t) (typeIs_bytes _ _ _) slot_bytes_find type_bytes_find KBd.noRef h
theorem r_lenbytes {x : List Nat} {t : Tok} {Q : Value → Shared → Prop} (I : St own names s₀ env vars nw s) (hsz : x.length ≤ sizeLine) (h : ∀ t s', St own names s₀ env vars nw s' → Q (.int (x.length : Int) t) s') :
    wpAny (model prog w) A (call (.builtin "len") [.bytes (mkB x) t]) Q E s := by
  refine len_bytes (by rw [mkB_size]; rw [sizeLine_val] at hsz; omega) ?_
  rw [mkB_size]
  exact h _ _ (I.toks _)
theorem r_truthy_bytes {x : List Nat} {t : Tok} {Q : Bool → Shared → Prop} (I : St own names s₀ env vars nw s) (hsz : x.length ≤ sizeLine) (h : ∀ s', St own names s₀ env vars nw s' → Q (decide (x ≠ [])) s') :
    wpAny (model prog w) A (truthy (.bytes (mkB x) t)) Q E s := by
  refine truthy_bytes (by rw [mkB_size]; rw [sizeLine_val] at hsz; omega) ?_
  rw [mkB_size]
  have e : ((x.length : Int) != 0) = decide (x ≠ []) := by
    cases x with
    | nil => rfl
    | cons _ _ => rw [Bool.eq_iff_iff]; simp; omega
  rw [e]
  exact h _ (I.toks _)
theorem r_bytes {l : Addr} {ys : Array Value} {k : Nat} {x : List Nat} {Q : Value → Shared → Prop} (hA : A.handled = none) (I : St own names s₀ env vars nw s) (hl : Held s₀ nw l (listObj ys k)) (hp : Paired VI (x.map fun (k : Nat) => (k : Int)) ys.toList) (hx : Octs x) (hsz : x.length ≤ sizeLine)
    (h : ∀ t s', St own names s₀ env vars nw s' → Q (.bytes (mkB x) t) s') : wpAny (model prog w) A (call (.type "bytes") [.ref l]) Q E s := by
  refine call_bytes_ints (vs := ys.toList) (isList_of (hl.get I)) (ints_of hp) ?_ (by rw [← hp.length, List.length_map]; exact hsz) hA fun h' t k hk => ?_
  · intro n hn
    obtain ⟨c, hc, rfl⟩ := List.mem_map.mp hn
    have := hx c hc
    omega
  · rw [byteArr_mk]
    exact h _ _ (I.keeps ⟨_, _, rfl, hk⟩)
theorem r_chr {i : Int} {n : Nat} {t : Tok} {Q : Value → Shared → Prop} (I : St own names s₀ env vars nw s) (hi : i = (n : Int)) (hn : n ≤ 1114111) (h : ∀ t s', St own names s₀ env vars nw s' → Q (.str (mkS [n]) t) s') :
    wpAny (model prog w) A (call (.builtin "chr") [.int i t]) Q E s := by
  subst hi
  refine chr_of_range (by omega) (by omega) ?_
  have : (⟨#[(n : Int).toNat]⟩ : Str) = mkS [n] := by rw [Int.toNat_natCast]; try rfl
  rw [this]
  exact h _ _ (I.toks _)
theorem r_ord {c : Nat} {t : Tok} {Q : Value → Shared → Prop} (I : St own names s₀ env vars nw s) (h : ∀ t s', St own names s₀ env vars nw s' → Q (.int (c : Int) t) s') :
    wpAny (model prog w) A (call (.builtin "ord") [.str (mkS [c]) t]) Q E s := by
  rw [show mkS [c] = (⟨#[c]⟩ : Str) from rfl]
  exact P.ord_of_char (h _ _ (I.toks _))
theorem r_getextend {l : Addr} {ys : Array Value} {k : Nat} {pl : Sem Bool} {Q : Value × List Value → Shared → Prop} (I : St own names s₀ env vars nw s) (hl : Held s₀ nw l (listObj ys k)) (h : Q (.builtin "list.extend", [.ref l]) s) :
    wpAny (model prog w) A (getMethod (.ref l) "extend" pl) Q E s :=
  getMethod_builtin (isList_of (hl.get I)).typeIs F.plainAttrs_list F.slot_list_extend F.type_list_extend (fun a e => by cases e; exact ⟨_, hl.get I, rfl⟩) h
theorem r_extend {l b : Addr} {ys zs : Array Value} {k k' : Nat} {Q : Value → Shared → Prop} (I : St own names s₀ env vars nw s) {nw₁ : List (Addr × Obj)} (hl : (l, listObj ys k) ∈ nw) (hb : Held s₀ nw b (listObj zs k')) (hsub : ∀ p ∈ nw₁, p ∈ nw) (hne : ∀ p ∈ nw₁, p.1 ≠ l) (hsz : ys.size + zs.size ≤ sizeLine)
    (h : ∀ k' s', St own names s₀ env vars ((l, listObj (ys ++ zs) k') :: nw₁) s' → Q .none s') (hown : own.w = false → ∀ n c, env.cells.lookup n = some c → l ≠ c := by intro h; cases h) :
    wpAny (model prog w) A (call (.builtin "list.extend") [.ref l, .ref b]) Q E s := by
  have J : St own names s₀ env vars ((l, listObj ys k) :: nw₁) s := I.nwSub fun p hp => by
    rcases List.mem_cons.mp hp with rfl | hp
    · exact hl
    · exact hsub p hp
  have hl' := (J.news _ (.head _)).1
  refine call_meets F.slot_list_extend (isList_of hl').typeIs F.entry_list_extend (F.args_list_extend_2 _ _) (AutoSeq1.list_extend_list_list_0 l ys k b zs k' ?_ (by omega) (by omega)) ⟨hl', hb.get I, ?_⟩
  · have : Builtin.List.listTooLong (ys.size + zs.size) = false := by
      unfold Builtin.List.listTooLong
      simp only [decide_eq_false_iff_not]
      omega
    rw [this]; simp
  · refine h _ _ (J.setAt (Heap.SameBut.update ..) (get?_update_seq hl' _) hne hown)
theorem paired_strs : ∀ (l : List (List Nat)) (tk : Nat), Paired VS l (strsFrom tk (l.map mkS))
  | [], _ => .nil
  | _ :: r, tk => .cons ⟨_, rfl⟩ (paired_strs r (tk + 1))
theorem kind_occ {x y : List Nat} {k : Nat} (h : occ x y k = true) : y.length ≤ x.length ∧ Builtin.Str.strKind (mkS y) ≤ Builtin.Str.strKind (mkS x) := by
  have hl := occ_le h
  have hm : ∀ c ∈ y, c ∈ x := by
    intro c hc
    unfold occ at h
    simp only [Bool.and_eq_true, beq_iff_eq] at h
    rw [← h.2] at hc
    exact List.mem_of_mem_drop (List.mem_of_mem_take hc)
  refine ⟨by omega, ?_⟩
  have hall : ∀ b, (mkS x).cps.all (· < b) = true → (mkS y).cps.all (· < b) = true := by
    intro b hb
    simp only [mkS, List.all_toArray, List.all_eq_true, decide_eq_true_eq] at hb ⊢
    exact fun c hc => hb c (hm c hc)
  unfold Builtin.Str.strKind
  by_cases h1 : (mkS x).cps.all (· < 256) = true
  · rw [if_pos h1, if_pos (hall _ h1)]
    exact Nat.le_refl _
  · rw [if_neg h1]
    by_cases h2 : (mkS x).cps.all (· < 65536) = true
    · rw [if_pos h2, if_pos (hall _ h2)]
      split <;> omega
    · rw [if_neg h2]
      split
      · omega
      · split <;> omega
theorem picks_occ {x y : List Nat} {k : Nat} (h : k ∈ picks x y) : occ x y k = true := by
  unfold picks at h
  split at h
  · cases h
  · exact pk_occ (List.mem_filter.mp h).2
theorem parts_len (x : List Nat) (m : Nat) : ∀ (cs : List Nat) (a : Nat), (partsL x m a cs).length = cs.length + 1
  | [], _ => rfl
  | c :: r, a => by show (partsL x m (c + m) r).length + 1 = _; rw [parts_len x m r]; rfl
theorem r_split {x y : List Nat} {t u : Tok} {Q : Value → Shared → Prop} (hy : y ≠ []) (hsz : x.length < sizeLine) (I : St own names s₀ env vars nw s)
    (h : ∀ D ys s', (∀ q ∈ nw, q.1 ≠ D) → Paired VS (partsL x y.length 0 (picks x y)) ys.toList → St own names s₀ env vars ((D, listObj ys 0) :: nw) s' → Q (.ref D) s') :
    wpAny (model prog w) A (call (.builtin "str.split") [.str (mkS x) t, .str (mkS y) u]) Q E s := by
  have alone : picks x y = [] → ∀ tk, Q (.ref s.heap.objs.size) { s with heap := s.heap.push { cls := .type "list", data := .seq [Value.str (mkS x) t].toArray }, toks := tk } := by
    intro e tk
    refine h _ _ _ I.fresh_ne ?_ ((I.push _ rfl).toks tk)
    rw [e]
    exact .cons ⟨_, rfl⟩ .nil
  have hpl : (picks x y).length ≤ x.length := by
    unfold picks; split
    · simp
    · exact Nat.le_trans (List.length_filter_le _ _) (by simp)
  have hy0 : ((mkS y).length == 0) = false := by
    rw [beq_eq_false_iff_ne]; have := mkS_len1 hy; omega
  cases h1 : (decide ((mkS x).length < (mkS y).length) || decide (Builtin.Str.strKind (mkS x) < Builtin.Str.strKind (mkS y))) with
  | true =>
    refine call_meets F.slot_str_split (typeIs_str _ _ _) F.entry_str_split (F.args_str_split_2 _ _) (meets_str_split_cannot_occur _ _ t u h1) ?_
    refine alone ?_ s.toks
    cases q : picks x y with
    | nil => rfl
    | cons k r =>
      exfalso
      have := kind_occ (picks_occ (x := x) (y := y) (k := k) (by rw [q]; exact .head _))
      rw [mkS_length, mkS_length] at h1
      simp only [Bool.or_eq_true, decide_eq_true_eq] at h1
      omega
  | false =>
    have ho := occs_picks (x := x) hy
    cases hf : (Builtin.Str.occurrences (mkS x) (mkS y) 0 (mkS x).length ((mkS x).length + 1)).isEmpty with
    | true =>
      refine call_meets F.slot_str_split (typeIs_str _ _ _) F.entry_str_split (F.args_str_split_2 _ _) (meets_str_split_not_found _ _ t u h1 hy0 hf) ?_
      rw [ho] at hf
      exact alone (by simpa using hf) s.toks
    | false =>
      have hp : Builtin.Str.partsBetween (mkS x) (Builtin.Str.occurrences (mkS x) (mkS y) 0 (mkS x).length ((mkS x).length + 1)) (mkS y).length = (partsL x y.length 0 (picks x y)).map mkS := by
        rw [ho, StrLaws.partsBetween_eq, mkS_length, partsFrom_mk]
      refine call_meets F.slot_str_split (typeIs_str _ _ _) F.entry_str_split (F.args_str_split_2 _ _) (meets_str_split_sep _ _ t u h1 hy0 hf (by rw [mkS_length]; omega) (by rw [hp, List.length_map, parts_len]; omega)) ?_
      rw [hp]
      exact h _ _ _ I.fresh_ne (paired_strs _ _) ((I.push _ rfl).toks _)
theorem r_slicetmp {value : Expr} {lower upper : Option Expr} {p pos : Pos} {Q : Value → Shared → Prop}
    (h : wpAny (model prog w) A (eval value env) (fun o s₁ => wpAny (model prog w) A (evalPart lower env) (fun vl s₂ => wpAny (model prog w) A (evalPart upper env) (fun vu s₃ =>
      ∃ l ys k lo hi vars nw, o = .ref l ∧ St own names s₀ env vars nw s₃ ∧ Held s₀ nw l (listObj ys k) ∧ ys.size ≤ sizeLine ∧ IsPart vl lo ∧ IsPart vu hi ∧
        ∀ D s', (∀ q ∈ nw, q.1 ≠ D) → St own names s₀ env vars ((D, listObj (slicePick ys lo hi none) 0) :: nw) s' → Q (.ref D) s') E s₂) E s₁) E s) :
    wpAny (model prog w) A (eval (.Subscript value (.Slice lower upper none p) pos) env) Q E s := by
  refine Subscript_ (wpAny_mono h (fun o s₁ h₁ => wpAny_Slice (wpAny_mono h₁ (fun vl s₂ h₂ => wpAny_mono h₂ (fun vu s₃ h₃ => ?_) fun _ _ e => e) fun _ _ e => e)) fun _ _ e => e)
  obtain ⟨l, ys, k, lo, hi, vars, nw, rfl, I, hl, hsz, pl, pu, hQ⟩ := h₃
  rw [evalPart_none]
  refine wpAny_pure ?_
  have hl0 := isList_of (hl.get I)
  have hT : ({ s₃ with heap := s₃.heap.push { cls := .type "slice", data := .fields #[vl, vu, .none] } } : Shared).TypeIs (.ref l) "list" := (hl0.push _).typeIs
  have fin : wpAny (model prog w) A (getItem (.ref l) (.ref s₃.heap.objs.size)) Q E { s₃ with heap := s₃.heap.push { cls := .type "slice", data := .fields #[vl, vu, .none] } } := by
    refine wpAny_getItem_list_slice (hl0.push _) (Heap.IsSliceOf.new ..) pl pu .none (by simp) ?_ hsz
    have J := I.push { cls := .type "slice", data := .fields #[vl, vu, .none] } rfl
    have J2 := (J.push { cls := .type "list", data := .seq (slicePick ys lo hi none) } rfl)
    refine hQ _ _ (fun q hq h => ?_) (J2.nwSub fun q hq => ?_)
    · have := Heap.lt_size (I.news q hq).1
      have e : ({ s₃ with heap := s₃.heap.push { cls := .type "slice", data := .fields #[vl, vu, .none] } } : Shared).heap.objs.size = s₃.heap.objs.size + 1 := Heap.size_push ..
      rw [h, e] at this
      exact Nat.lt_irrefl _ (Nat.lt_of_succ_lt this)
    · rcases List.mem_cons.mp hq with rfl | hq
      · exact .head _
      · exact .tail _ (.tail _ hq)
  unfold subscriptTail
  refine wpAny_bind ?_
  rw [getitemInPython_of_ne hT.not_modules]
  refine wpAny_bind (wpAny_specialOf hT slot_list_getitem.lookup ?_)
  have fin2 : wpAny (model prog w) A (subscripted (.Slice lower upper none p) false (.ref l) (.ref s₃.heap.objs.size)) (fun r s₅ => wpAny (model prog w) A (letTemporaryGo value (.ref l) r >>= fun _ => pure r) Q E s₅) E { s₃ with heap := s₃.heap.push { cls := .type "slice", data := .fields #[vl, vu, .none] } } := by
    rw [show subscripted (.Slice lower upper none p) false (.ref l) (.ref s₃.heap.objs.size) = operate [.ref s₃.heap.objs.size, .ref l] (getItem (.ref l) (.ref s₃.heap.objs.size)) by with_unfolding_all rfl]
    exact wpAny_operating (wpAny_mono fin (fun r s₅ h₅ => wpAny_bind (wpAny_letTemporaryGo (wpAny_pure h₅))) fun _ _ x => x)
  first
    | exact wpAny_pure (wpAny_bind fin2)
    | exact wpAny_bind (wpAny_pure (wpAny_bind fin2))
    | exact wpAny_bind fin2
end
/-! law 04: the counts by ends -/
def nk (o : Nat → Bool) (m k : Nat) : Nat := ((List.range k).filter (pk o m)).length
theorem nk_succ (o : Nat → Bool) (m k : Nat) : nk o m (k + 1) = nk o m k + if pk o m k = true then 1 else 0 := by
  unfold nk
  rw [List.range_succ, List.filter_append, List.length_append]
  by_cases h : pk o m k = true <;> simp [h]
theorem nk_mono (o : Nat → Bool) (m k : Nat) : ∀ d, nk o m k ≤ nk o m (k + d)
  | 0 => Nat.le_refl _
  | d + 1 => Nat.le_trans (nk_mono o m k d) (by rw [show k + (d + 1) = (k + d) + 1 by omega, nk_succ]; omega)
theorem nk_flat (o : Nat → Bool) (m k : Nat) : ∀ d, (∀ j, k ≤ j → j < k + d → pk o m j = false) → nk o m (k + d) = nk o m k
  | 0, _ => rfl
  | d + 1, h => by
    rw [show k + (d + 1) = (k + d) + 1 by omega, nk_succ, h (k + d) (by omega) (by omega), nk_flat o m k d fun j h1 h2 => h j h1 (by omega)]
    simp
theorem sk_back {o : Nat → Bool} {m : Nat} : ∀ k, 0 < sk o m k → ∃ j, j < k ∧ pk o m j = true ∧ j + m = k + sk o m k
  | 0, h => by simp [sk] at h
  | k + 1, h => by
    have e : sk o m (k + 1) = if sk o m k = 0 ∧ o k = true then m - 1 else sk o m k - 1 := rfl
    by_cases hc : sk o m k = 0 ∧ o k = true
    · rw [if_pos hc] at e
      exact ⟨k, by omega, pk_of hc.1 hc.2, by omega⟩
    · rw [if_neg hc] at e
      rw [e] at h ⊢
      obtain ⟨j, h1, h2, h3⟩ := sk_back (o := o) (m := m) k (by omega)
      exact ⟨j, by omega, h2, by omega⟩
theorem nk_step (o : Nat → Bool) (m k : Nat) (hm : 0 < m) : nk o m (k + 1) = if (if o k = true then nk o m (k + 1 - m) + 1 else 0) > nk o m k then (if o k = true then nk o m (k + 1 - m) + 1 else 0) else nk o m k := by
  rw [nk_succ]
  by_cases ho : o k = true
  · simp only [ho, if_true]
    by_cases hp : pk o m k = true
    · rw [if_pos hp]
      have e : nk o m k = nk o m (k + 1 - m) := by
        have := nk_flat o m (k + 1 - m) (k - (k + 1 - m)) fun j h1 h2 => by
          cases q : pk o m j with
          | false => rfl
          | true => rw [pk_barred q (by omega) (by omega)] at hp; cases hp
        rw [show k + 1 - m + (k - (k + 1 - m)) = k by omega] at this
        exact this
      rw [e, if_pos (by omega)]
    · rw [if_neg hp]
      have hs : 0 < sk o m k := by
        rcases Nat.eq_zero_or_pos (sk o m k) with h | h
        · exact absurd (pk_of h ho) hp
        · exact h
      obtain ⟨j, h1, h2, h3⟩ := sk_back k hs
      have a1 := nk_mono o m (k + 1 - m) (j - (k + 1 - m))
      have a2 := nk_mono o m (j + 1) (k - (j + 1))
      have a3 := nk_succ o m j
      rw [if_pos h2] at a3
      rw [show k + 1 - m + (j - (k + 1 - m)) = j by omega] at a1
      rw [show j + 1 + (k - (j + 1)) = k by omega] at a2
      rw [if_neg (by omega)]; rfl
  · have hp : ¬ pk o m k = true := fun h => ho (pk_occ h)
    simp [hp, ho]

def cnt (x y : List Nat) (e : Nat) : Nat := if y = [] then 0 else nk (occ x y) y.length (e + 1 - y.length)
def laid (x y : List Nat) (e : Nat) : Nat := if 0 < y.length ∧ y.length ≤ e ∧ (x.drop (e - y.length)).take y.length = y then cnt x y (e - y.length) + 1 else 0
theorem cnt_zero (x y : List Nat) : cnt x y 0 = 0 := by
  unfold cnt
  split
  · rfl
  · rename_i h
    have : 0 < y.length := by cases y with | nil => exact absurd rfl h | cons _ _ => simp
    rw [show 0 + 1 - y.length = 0 by omega]; rfl
theorem cnt_step (x y : List Nat) (e : Nat) (he : e < x.length) : cnt x y (e + 1) = if laid x y (e + 1) > cnt x y e then laid x y (e + 1) else cnt x y e := by
  by_cases hy : y = []
  · subst hy; simp [cnt, laid]
  · have hm : 0 < y.length := by cases y with | nil => exact absurd rfl hy | cons _ _ => simp
    unfold laid cnt
    simp only [if_neg hy]
    by_cases h : y.length ≤ e + 1
    · rw [show e + 1 + 1 - y.length = (e + 1 - y.length) + 1 by omega]
      have ho : occ x y (e + 1 - y.length) = ((x.drop (e + 1 - y.length)).take y.length == y) := by
        unfold occ
        rw [decide_eq_true (by omega), Bool.true_and]
      have := nk_step (occ x y) y.length (e + 1 - y.length) hm
      rw [ho] at this
      simp only [beq_iff_eq] at this
      simp only [hm, h, true_and]
      exact this
    · rw [if_neg (c := 0 < y.length ∧ _) (fun q => h q.2.1), if_neg (by omega), show e + 1 - y.length = 0 by omega, show e + 1 + 1 - y.length = 0 by omega]
theorem cnt_grow (x y : List Nat) (e : Nat) (hy : y ≠ []) : (decide (cnt x y (e + 1) > cnt x y e)) = (decide (y.length ≤ e + 1) && pk (occ x y) y.length (e + 1 - y.length)) := by
  have hm : 0 < y.length := by cases y with | nil => exact absurd rfl hy | cons _ _ => simp
  unfold cnt
  simp only [if_neg hy]
  by_cases h : y.length ≤ e + 1
  · rw [show e + 1 + 1 - y.length = (e + 1 - y.length) + 1 by omega, nk_succ, decide_eq_true h, Bool.true_and]
    cases q : pk (occ x y) y.length (e + 1 - y.length) <;> simp
  · rw [decide_eq_false h, show e + 1 - y.length = 0 by omega, show e + 1 + 1 - y.length = 0 by omega]; simp
theorem ends_eq (x y : List Nat) : ((List.range x.length).filter fun e => decide (cnt x y (e + 1) > cnt x y e)).map (fun (e : Nat) => (1 + (e : Int)) - (y.length : Int)) = (picks x y).map fun (k : Nat) => (k : Int) := by
  by_cases hy : y = []
  · subst hy
    have e : picks x [] = [] := by unfold picks; rw [if_pos rfl]
    rw [e, List.filter_eq_nil_iff.mpr]
    · rfl
    · intro a _; simp [cnt]
  · have hm : 0 < y.length := by cases y with | nil => exact absurd rfl hy | cons _ _ => simp
    have ef : ((List.range x.length).filter fun e => decide (cnt x y (e + 1) > cnt x y e)) = (List.range x.length).filter fun e => decide (y.length ≤ e + 1) && pk (occ x y) y.length (e + 1 - y.length) :=
      List.filter_congr fun e _ => cnt_grow x y e hy
    rw [ef]
    unfold picks
    rw [if_neg hy]
    by_cases hx : y.length ≤ x.length + 1
    · have e1 : List.range x.length = List.range' 0 (y.length - 1) ++ List.range' (y.length - 1) (x.length + 1 - y.length) := by
        have := List.range'_append_1 (s := 0) (m := y.length - 1) (n := x.length + 1 - y.length)
        rw [Nat.zero_add] at this
        rw [this, List.range_eq_range']; congr 1; omega
      have e2 : List.range x.length = List.range' 0 (x.length + 1 - y.length) ++ List.range' (x.length + 1 - y.length) (y.length - 1) := by
        have := List.range'_append_1 (s := 0) (m := x.length + 1 - y.length) (n := y.length - 1)
        rw [Nat.zero_add] at this
        rw [this, List.range_eq_range']; congr 1; omega
      rw [e1, List.filter_append, filter_range'_nil (fun j _ h2 => by rw [decide_eq_false (by omega), Bool.false_and]), List.nil_append]
      rw [← e1, e2, List.filter_append, filter_range'_nil (i := x.length + 1 - y.length) (fun j h1 _ => by
        cases q : pk (occ x y) y.length j with
        | false => rfl
        | true => have := occ_le (pk_occ q); omega), List.append_nil]
      have e4 : List.map (fun x => y.length - 1 + x) (List.range' 0 (x.length + 1 - y.length)) = List.range' (y.length - 1) (x.length + 1 - y.length) := List.map_add_range' (a := y.length - 1) (s := 0) (n := x.length + 1 - y.length) (step := 1)
      rw [← e4]
      rw [List.filter_map, List.map_map]
      have e3 : List.filter ((fun e => decide (y.length ≤ e + 1) && pk (occ x y) y.length (e + 1 - y.length)) ∘ fun x => y.length - 1 + x) (List.range' 0 (x.length + 1 - y.length)) = List.filter (pk (occ x y) y.length) (List.range' 0 (x.length + 1 - y.length)) := by
        refine List.filter_congr fun e _ => ?_
        simp only [Function.comp]
        rw [decide_eq_true (by omega), Bool.true_and, show y.length - 1 + e + 1 - y.length = e by omega]
      rw [e3]
      refine List.map_congr_left fun e _ => ?_
      simp only [Function.comp]
      omega
    · rw [List.filter_eq_nil_iff.mpr, List.filter_eq_nil_iff.mpr]
      · rfl
      · intro k _ hk
        have := occ_le (pk_occ hk); omega
      · intro e he
        have := List.mem_range.mp he
        simp; intro; omega
/-! law 07: counted from the left and from the right -/
def cn (p : Nat → Bool) (k : Nat) : Nat := ((List.range k).filter p).length
theorem cn_succ (p : Nat → Bool) (k : Nat) : cn p (k + 1) = cn p k + if p k = true then 1 else 0 := by
  unfold cn
  rw [List.range_succ, List.filter_append, List.length_append]
  by_cases h : p k = true <;> simp [h]
theorem cn_mono (p : Nat → Bool) (k : Nat) : ∀ d, cn p k ≤ cn p (k + d)
  | 0 => Nat.le_refl _
  | d + 1 => Nat.le_trans (cn_mono p k d) (by rw [show k + (d + 1) = (k + d) + 1 by omega, cn_succ]; omega)
theorem cn_le (p : Nat → Bool) {a b : Nat} (h : a ≤ b) : cn p a ≤ cn p b := by
  have := cn_mono p a (b - a)
  rw [show a + (b - a) = b by omega] at this; exact this
theorem cn_flat (p : Nat → Bool) (k : Nat) : ∀ d, (∀ j, k ≤ j → j < k + d → p j = false) → cn p (k + d) = cn p k
  | 0, _ => rfl
  | d + 1, h => by
    rw [show k + (d + 1) = (k + d) + 1 by omega, cn_succ, h (k + d) (by omega) (by omega), cn_flat p k d fun j h1 h2 => h j h1 (by omega)]
    simp
theorem cn_same (p q : Nat → Bool) : ∀ k, (∀ j, j < k → p j = q j) → cn p k = cn q k
  | 0, _ => rfl
  | k + 1, h => by rw [cn_succ, cn_succ, cn_same p q k fun j hj => h j (by omega), h k (by omega)]
theorem nk_cn (o : Nat → Bool) (m k : Nat) : nk o m k = cn (pk o m) k := rfl
theorem filter_get (p : Nat → Bool) : ∀ (N i e : Nat), ((List.range N).filter p)[i]? = some e → p e = true ∧ e < N ∧ cn p e = i
  | 0, i, e, h => by simp at h
  | N + 1, i, e, h => by
    rw [List.range_succ, List.filter_append, List.getElem?_append] at h
    split at h
    · obtain ⟨a, b, c⟩ := filter_get p N i e h
      exact ⟨a, by omega, c⟩
    · rename_i hi
      by_cases hp : p N = true
      · simp only [List.filter_cons, hp, if_true, List.filter_nil] at h
        have h1 : i - ((List.range N).filter p).length = 0 := by
          rcases Nat.eq_zero_or_pos (i - ((List.range N).filter p).length) with q | q
          · exact q
          · rw [List.getElem?_eq_none (by rw [List.length_singleton]; exact q)] at h; cases h
        rw [h1] at h
        simp at h
        subst h
        exact ⟨hp, by omega, by unfold cn; omega⟩
      · simp [hp] at h
/-- a packing never runs ahead of the picks -/
theorem pack_le {o p : Nat → Bool} {m : Nat} (hm : 0 < m) (ho : ∀ k, p k = true → o k = true) (hg : ∀ j k, p j = true → p k = true → j < k → j + m ≤ k) (k : Nat) : cn p k ≤ nk o m k := by
  induction k using Nat.strongRecOn with
  | _ k ih =>
    cases k with
    | zero => exact Nat.le_refl _
    | succ k =>
      rw [cn_succ]
      by_cases hp : p k = true
      · rw [if_pos hp]
        have e : cn p k = cn p (k + 1 - m) := by
          have := cn_flat p (k + 1 - m) (k - (k + 1 - m)) fun j h1 h2 => by
            cases q : p j with
            | false => rfl
            | true => have := hg j k q hp (by omega); omega
          rw [show k + 1 - m + (k - (k + 1 - m)) = k by omega] at this
          exact this
        have i1 := ih (k + 1 - m) (by omega)
        have st := nk_step o m k hm
        rw [ho k hp] at st
        simp only [if_true] at st
        rw [st, e]
        split <;> omega
      · rw [if_neg hp, nk_succ]
        have := ih k (by omega)
        omega
theorem cn_mirror (p : Nat → Bool) (T : Nat) : ∀ l, l ≤ T + 1 → cn (fun k => p (T - k)) l + cn p (T + 1 - l) = cn p (T + 1)
  | 0, _ => by simp [cn]
  | l + 1, h => by
    have ih := cn_mirror p T l (by omega)
    rw [cn_succ]
    rw [show T + 1 - l = (T - l) + 1 by omega, cn_succ] at ih
    rw [show T + 1 - (l + 1) = T - l by omega]
    omega
theorem occ_rev (x y : List Nat) (j : Nat) (h : j + y.length ≤ x.length) : occ x.reverse y.reverse j = occ x y (x.length - y.length - j) := by
  unfold occ
  rw [List.length_reverse, List.length_reverse, decide_eq_true h, decide_eq_true (by omega), Bool.true_and, Bool.true_and, List.drop_reverse, List.take_reverse, List.length_take, List.drop_take]
  rw [show min (x.length - j) x.length - y.length = x.length - y.length - j by omega, show x.length - j - (x.length - y.length - j) = y.length by omega]
  rw [Bool.eq_iff_iff]
  simp only [beq_iff_eq]
  exact List.reverse_inj
theorem occ_rev_lt (x y : List Nat) (j : Nat) (h : ¬ j + y.length ≤ x.length) : occ x.reverse y.reverse j = false := by
  unfold occ
  rw [List.length_reverse, List.length_reverse, decide_eq_false h, Bool.false_and]
theorem pk_gap {o : Nat → Bool} {m j k : Nat} (hj : pk o m j = true) (hk : pk o m k = true) (h : j < k) : j + m ≤ k := by
  rcases Nat.lt_or_ge k (j + m) with q | q
  · rw [pk_barred hj h q] at hk; cases hk
  · exact q
/-- the picks from the right, by their places from the left -/
def qr (x y : List Nat) (k : Nat) : Bool := decide (k + y.length ≤ x.length) && pk (occ x.reverse y.reverse) y.length (x.length - y.length - k)
theorem qr_occ {x y : List Nat} {k : Nat} (h : qr x y k = true) : occ x y k = true := by
  unfold qr at h
  simp only [Bool.and_eq_true, decide_eq_true_eq] at h
  have := pk_occ h.2
  rw [occ_rev x y _ (by omega), show x.length - y.length - (x.length - y.length - k) = k by omega] at this
  exact this
theorem qr_gap {x y : List Nat} {j k : Nat} (hj : qr x y j = true) (hk : qr x y k = true) (h : j < k) : j + y.length ≤ k := by
  unfold qr at hj hk
  simp only [Bool.and_eq_true, decide_eq_true_eq] at hj hk
  have := pk_gap hk.2 hj.2 (by omega)
  omega
theorem nk_total {x y : List Nat} : nk (occ x y) y.length x.length = nk (occ x y) y.length (x.length - y.length + 1) ∨ y.length = 0 ∨ x.length < y.length := by
  by_cases h : y.length = 0
  · exact .inr (.inl h)
  · by_cases h2 : x.length < y.length
    · exact .inr (.inr h2)
    · refine .inl ?_
      have := nk_flat (occ x y) y.length (x.length - y.length + 1) (x.length - (x.length - y.length + 1)) fun j h1 _ => by
        cases q : pk (occ x y) y.length j with
        | false => rfl
        | true => have := occ_le (pk_occ q); omega
      rw [show x.length - y.length + 1 + (x.length - (x.length - y.length + 1)) = x.length by omega] at this
      exact this
theorem qr_cn {x y : List Nat} (hm : 0 < y.length) (hx : y.length ≤ x.length) {l : Nat} (hl : l ≤ x.length - y.length + 1) :
    cn (qr x y) l + nk (occ x.reverse y.reverse) y.length (x.length - y.length + 1 - l) = nk (occ x.reverse y.reverse) y.length x.length := by
  have h1 := cn_mirror (pk (occ x.reverse y.reverse) y.length) (x.length - y.length) l hl
  have h2 : cn (qr x y) l = cn (fun k => pk (occ x.reverse y.reverse) y.length (x.length - y.length - k)) l := cn_same _ _ l fun j hj => by
    unfold qr; rw [decide_eq_true (by omega), Bool.true_and]
  have h3 := nk_total (x := x.reverse) (y := y.reverse)
  simp only [List.length_reverse] at h3
  have h4 : nk (occ x.reverse y.reverse) y.length x.length = nk (occ x.reverse y.reverse) y.length (x.length - y.length + 1) := by
    rcases h3 with h | h | h
    · exact h
    · omega
    · omega
  rw [h2, h4]
  exact h1
theorem total_le {x y : List Nat} (hm : 0 < y.length) (hx : y.length ≤ x.length) : nk (occ x.reverse y.reverse) y.length x.length ≤ nk (occ x y) y.length x.length := by
  have h1 := qr_cn hm hx (Nat.le_refl (x.length - y.length + 1))
  rw [Nat.sub_self] at h1
  have h2 := pack_le hm (fun k => qr_occ (x := x) (y := y) (k := k)) (fun j k => qr_gap) (x.length - y.length + 1)
  have h3 := nk_mono (occ x y) y.length (x.length - y.length + 1) (y.length - 1)
  rw [show x.length - y.length + 1 + (y.length - 1) = x.length by omega] at h3
  have h0 : nk (occ x.reverse y.reverse) y.length 0 = 0 := rfl
  omega
theorem total_eq {x y : List Nat} (hm : 0 < y.length) (hx : y.length ≤ x.length) : nk (occ x.reverse y.reverse) y.length x.length = nk (occ x y) y.length x.length := by
  have h1 := total_le hm hx
  have h2 := total_le (x := x.reverse) (y := y.reverse) (by simpa using hm) (by simpa using hx)
  simp only [List.reverse_reverse, List.length_reverse] at h2
  omega
theorem picks_len {x y : List Nat} (hy : y ≠ []) : (picks x y).length = nk (occ x y) y.length x.length := by
  unfold picks nk; rw [if_neg hy]
theorem short_nil {x y : List Nat} (h : x.length < y.length) : picks x y = [] := by
  unfold picks
  split
  · rfl
  · rw [List.filter_eq_nil_iff]
    intro k _ hk
    have := occ_le (pk_occ hk); omega
theorem mirror_len (x y : List Nat) : (picks x.reverse y.reverse).length = (picks x y).length := by
  by_cases hy : y = []
  · subst hy; simp [picks]
  · have hm : 0 < y.length := by cases y with | nil => exact absurd rfl hy | cons _ _ => simp
    by_cases hx : y.length ≤ x.length
    · rw [picks_len hy, picks_len (by simpa using hy)]
      simp only [List.length_reverse]
      exact total_eq hm hx
    · rw [short_nil (by omega : x.length < y.length), short_nil (by simp; omega)]
theorem picks_get {x y : List Nat} {k e : Nat} (h : (picks x y)[k]? = some e) : y ≠ [] ∧ pk (occ x y) y.length e = true ∧ e < x.length ∧ nk (occ x y) y.length e = k := by
  by_cases hy : y = []
  · subst hy; simp [picks] at h
  · unfold picks at h
    rw [if_neg hy] at h
    exact ⟨hy, filter_get _ _ _ _ h⟩
theorem picks_gap {x y : List Nat} {k e e' : Nat} (h : (picks x y)[k]? = some e) (h' : (picks x y)[k + 1]? = some e') : e + y.length ≤ e' := by
  obtain ⟨_, h1, _, h2⟩ := picks_get h
  obtain ⟨_, h3, _, h4⟩ := picks_get h'
  refine pk_gap h1 h3 ?_
  rcases Nat.lt_or_ge e e' with q | q
  · exact q
  · have : nk (occ x y) y.length e' ≤ nk (occ x y) y.length e := cn_le _ q
    omega
theorem mirror_late {x y : List Nat} {k e j : Nat} (he : (picks x y)[k]? = some e) (hj : (picks x.reverse y.reverse)[(picks x y).length - 1 - k]? = some j) :
    j + y.length ≤ x.length ∧ e ≤ x.length - y.length - j ∧ x.length - y.length - j < e + y.length := by
  obtain ⟨hy, e1, e2, e3⟩ := picks_get he
  obtain ⟨_, j1, j2, j3⟩ := picks_get hj
  have hm : 0 < y.length := by cases y with | nil => exact absurd rfl hy | cons _ _ => simp
  simp only [List.length_reverse] at j1 j2 j3
  have hx := occ_le (pk_occ e1)
  have hjx : j + y.length ≤ x.length := by
    have := occ_le (pk_occ j1)
    simpa using this
  have hkn : k < (picks x y).length := (List.getElem?_eq_some_iff.mp he).1
  have hn : (picks x y).length = nk (occ x y) y.length x.length := picks_len hy
  have hT := total_eq hm (x := x) (by omega)
  refine ⟨hjx, ?_, ?_⟩
  · -- at least k + 1 picks stand at or before it
    have c1 := qr_cn (x := x) (y := y) hm (by omega) (l := x.length - y.length - j + 1) (by omega)
    rw [show x.length - y.length + 1 - (x.length - y.length - j + 1) = j by omega] at c1
    have c2 := pack_le hm (fun k => qr_occ (x := x) (y := y) (k := k)) (fun j k => qr_gap) (x.length - y.length - j + 1)
    rcases Nat.lt_or_ge (x.length - y.length - j) e with q | q
    · have : nk (occ x y) y.length (x.length - y.length - j + 1) ≤ nk (occ x y) y.length e := cn_le _ (by omega)
      omega
    · exact q
  · rcases Nat.lt_or_ge (x.length - y.length - j) (e + y.length) with q | q
    · exact q
    · exfalso
      let p : Nat → Bool := fun i => if i ≤ e then pk (occ x y) y.length i else decide (e + y.length ≤ i) && qr x y i
      have hp1 : ∀ i, i ≤ e → p i = pk (occ x y) y.length i := fun i hi => if_pos hi
      have hp2 : ∀ i, ¬ i ≤ e → p i = (decide (e + y.length ≤ i) && qr x y i) := fun i hi => if_neg hi
      have b := pack_le (o := occ x y) (p := p) hm (fun i hi => by
        by_cases q1 : i ≤ e
        · rw [hp1 i q1] at hi; exact pk_occ hi
        · rw [hp2 i q1] at hi
          simp only [Bool.and_eq_true] at hi
          exact qr_occ hi.2) (fun a i ha hi hai => by
        by_cases q1 : i ≤ e
        · rw [hp1 i q1] at hi; rw [hp1 a (by omega)] at ha
          exact pk_gap ha hi hai
        · rw [hp2 i q1] at hi
          simp only [Bool.and_eq_true, decide_eq_true_eq] at hi
          by_cases q2 : a ≤ e
          · omega
          · rw [hp2 a q2] at ha
            simp only [Bool.and_eq_true] at ha
            exact qr_gap ha.2 hi.2 hai) x.length
      have hA : cn p (e + 1) = k + 1 := by
        rw [cn_same p (pk (occ x y) y.length) (e + 1) fun i hi => hp1 i (by omega), cn_succ, if_pos e1, ← nk_cn, e3]
      have hB : cn p (e + y.length) = k + 1 := by
        have := cn_flat p (e + 1) (y.length - 1) fun i h1 h2 => by rw [hp2 i (by omega), decide_eq_false (by omega), Bool.false_and]
        rw [show e + 1 + (y.length - 1) = e + y.length by omega] at this
        rw [this, hA]
      have hC : ∀ d, cn p (e + y.length + d) + cn (qr x y) (e + y.length) = k + 1 + cn (qr x y) (e + y.length + d) := by
        intro d
        induction d with
        | zero => rw [Nat.add_zero, hB]
        | succ d ih =>
          rw [show e + y.length + (d + 1) = (e + y.length + d) + 1 by omega, cn_succ, cn_succ, hp2 _ (by omega), decide_eq_true (by omega), Bool.true_and]
          omega
      have c1 := qr_cn (x := x) (y := y) hm (by omega) (l := x.length - y.length - j) (by omega)
      rw [show x.length - y.length + 1 - (x.length - y.length - j) = j + 1 by omega, nk_succ, if_pos j1] at c1
      have c2 := qr_cn (x := x) (y := y) hm (by omega) (l := x.length - y.length + 1) (by omega)
      rw [Nat.sub_self, show nk (occ x.reverse y.reverse) y.length 0 = 0 from rfl] at c2
      have c3 : cn (qr x y) (e + y.length) ≤ cn (qr x y) (x.length - y.length - j) := cn_le _ q
      have c4 : cn (qr x y) (x.length - y.length + 1) ≤ cn (qr x y) x.length := cn_le _ (by omega)
      have c5 := hC (x.length - (e + y.length))
      rw [show e + y.length + (x.length - (e + y.length)) = x.length by omega] at c5
      omega
theorem picks_nil (x y : List Nat) : (picks x y ≠ []) ↔ (y ≠ [] ∧ has x y = true) := by
  constructor
  · intro h
    cases q : picks x y with
    | nil => exact absurd q h
    | cons a r =>
      have g := picks_get (x := x) (y := y) (k := 0) (e := a) (by rw [q]; rfl)
      exact ⟨g.1, (has_iff x y).mpr ⟨a, pk_occ g.2.1⟩⟩
  · rintro ⟨hy, h⟩ e
    have hm : 0 < y.length := by cases y with | nil => exact absurd rfl hy | cons _ _ => simp
    obtain ⟨k, hk⟩ := (has_iff x y).mp h
    have hl := picks_len (x := x) hy
    rw [e] at hl
    have st := nk_step (occ x y) y.length k hm
    rw [hk] at st
    simp only [if_true] at st
    have : nk (occ x y) y.length (k + 1) ≤ nk (occ x y) y.length x.length := cn_le _ (by have := occ_le hk; omega)
    simp only [List.length_nil] at hl
    split at st <;> omega

/-! law 06, plain: the octets of a text -/
def enc (c : Nat) : List Nat :=
  if c < 128 then [c] else if c < 2048 then [192 + c / 64, 128 + c % 64] else
  if c < 65536 then [224 + c / 4096, 128 + c / 64 % 64, 128 + c % 64] else [240 + c / 262144, 128 + c / 4096 % 64, 128 + c / 64 % 64, 128 + c % 64]
def en (x : List Nat) : List Nat := (x.map enc).flatten
theorem en_cons (c : Nat) (x : List Nat) : en (c :: x) = enc c ++ en x := by simp [en]
theorem en_append (x y : List Nat) : en (x ++ y) = en x ++ en y := by simp [en]
theorem enc_le (c : Nat) : (enc c).length ≤ 4 := by
  unfold enc
  repeat' split
  all_goals simp
theorem enc_shape (c : Nat) : ∃ l t, enc c = l :: t ∧ (l < 128 ∨ 192 ≤ l) ∧ ∀ b ∈ t, 128 ≤ b ∧ b < 192 := by
  unfold enc
  repeat' split
  · exact ⟨_, _, rfl, by omega, by simp⟩
  · refine ⟨_, _, rfl, by omega, ?_⟩
    intro b hb
    simp only [List.mem_cons, List.not_mem_nil, or_false] at hb
    omega
  · refine ⟨_, _, rfl, by omega, ?_⟩
    intro b hb
    simp only [List.mem_cons, List.not_mem_nil, or_false] at hb
    omega
  · refine ⟨_, _, rfl, by omega, ?_⟩
    intro b hb
    simp only [List.mem_cons, List.not_mem_nil, or_false] at hb
    omega
theorem enc_pos (c : Nat) : 0 < (enc c).length := by
  obtain ⟨l, t, e, _⟩ := enc_shape c
  rw [e]; simp
theorem enc_oct {c : Nat} (h : c ≤ 1114111) : ∀ b ∈ enc c, b < 256 := by
  intro b hb
  unfold enc at hb
  split at hb
  · simp at hb; omega
  · split at hb
    · simp at hb; omega
    · split at hb <;> (simp at hb; omega)
theorem en_oct {x : List Nat} (h : ∀ c ∈ x, c ≤ 1114111) : ∀ b ∈ en x, b < 256 := by
  intro b hb
  unfold en at hb
  obtain ⟨l, hl, hb⟩ := List.mem_flatten.mp hb
  obtain ⟨c, hc, rfl⟩ := List.mem_map.mp hl
  exact enc_oct (h c hc) b hb
theorem en_len (x : List Nat) : (en x).length ≤ x.length * 4 := by
  induction x with
  | nil => simp [en]
  | cons c x ih => rw [en_cons, List.length_append, List.length_cons]; have := enc_le c; omega
theorem enc_step {c d : Nat} {a b : List Nat} (h : enc c ++ a = enc d ++ b) : c = d ∧ a = b := by
  unfold enc at h
  split at h
  · split at h
    · simp only [List.cons_append, List.nil_append, List.cons.injEq] at h; exact h
    · split at h
      · simp only [List.cons_append, List.nil_append, List.cons.injEq] at h; omega
      · split at h <;> (simp only [List.cons_append, List.nil_append, List.cons.injEq] at h; omega)
  · split at h
    · split at h
      · simp only [List.cons_append, List.nil_append, List.cons.injEq] at h; omega
      · split at h
        · simp only [List.cons_append, List.nil_append, List.cons.injEq] at h; exact ⟨by omega, h.2.2⟩
        · split at h <;> (simp only [List.cons_append, List.nil_append, List.cons.injEq] at h; omega)
    · split at h
      · split at h
        · simp only [List.cons_append, List.nil_append, List.cons.injEq] at h; omega
        · split at h
          · simp only [List.cons_append, List.nil_append, List.cons.injEq] at h; omega
          · split at h
            · simp only [List.cons_append, List.nil_append, List.cons.injEq] at h; exact ⟨by omega, h.2.2.2⟩
            · simp only [List.cons_append, List.nil_append, List.cons.injEq] at h; omega
      · split at h
        · simp only [List.cons_append, List.nil_append, List.cons.injEq] at h; omega
        · split at h
          · simp only [List.cons_append, List.nil_append, List.cons.injEq] at h; omega
          · split at h
            · simp only [List.cons_append, List.nil_append, List.cons.injEq] at h; omega
            · simp only [List.cons_append, List.nil_append, List.cons.injEq] at h; exact ⟨by omega, h.2.2.2.2⟩
theorem en_prefix : ∀ (y z t : List Nat), en y ++ t = en z → ∃ r, z = y ++ r
  | [], z, _, _ => ⟨z, rfl⟩
  | c :: y, [], t, h => by
    have := congrArg List.length h
    rw [en_cons, List.length_append, List.length_append] at this
    have h2 := enc_pos c
    rw [show en [] = [] from rfl, List.length_nil] at this
    omega
  | c :: y, d :: z, t, h => by
    rw [en_cons, en_cons, List.append_assoc] at h
    obtain ⟨rfl, h2⟩ := enc_step h
    obtain ⟨r, rfl⟩ := en_prefix y z t h2
    exact ⟨r, rfl⟩
def bb (x : List Nat) (k : Nat) : Nat := (en (x.take k)).length
theorem bb_zero (x : List Nat) : bb x 0 = 0 := by simp [bb, en]
theorem bb_add (x : List Nat) (k m : Nat) : bb x (k + m) = bb x k + (en ((x.drop k).take m)).length := by
  unfold bb
  rw [← List.length_append, ← en_append, List.take_add]
theorem en_drop (x : List Nat) (k : Nat) : (en x).drop (bb x k) = en (x.drop k) := by
  have : en x = en (x.take k) ++ en (x.drop k) := by rw [← en_append, List.take_append_drop]
  rw [this]
  unfold bb
  rw [List.drop_left]
theorem bb_lt {x : List Nat} {k j : Nat} (h : k < j) (hj : j ≤ x.length) : bb x k < bb x j := by
  have e : bb x j = bb x k + (en ((x.drop k).take (j - k))).length := by rw [← bb_add]; congr 1; omega
  rw [e, List.drop_eq_getElem_cons (by omega : k < x.length), show j - k = j - k - 1 + 1 by omega, List.take_succ_cons, en_cons, List.length_append]
  have := enc_pos x[k]
  omega
theorem bb_le {x : List Nat} {k j : Nat} (h : k ≤ j) (hj : j ≤ x.length) : bb x k ≤ bb x j := by
  rcases Nat.lt_or_ge k j with h1 | h1
  · exact Nat.le_of_lt (bb_lt h1 hj)
  · rw [show k = j by omega]; exact Nat.le_refl _
theorem bb_all (x : List Nat) : bb x x.length = (en x).length := by unfold bb; rw [List.take_length]
theorem en_edge : ∀ (x : List Nat) (j b : Nat), (en x)[j]? = some b → (b < 128 ∨ 192 ≤ b) → ∃ k, k < x.length ∧ j = bb x k
  | [], j, b, h, _ => by simp [en] at h
  | c :: x, j, b, h, hb => by
    obtain ⟨l, t, e, _, ht⟩ := enc_shape c
    rw [en_cons] at h
    by_cases hj : j < (enc c).length
    · rw [List.getElem?_append_left hj, e] at h
      cases j with
      | zero => exact ⟨0, by simp, by rw [bb_zero]⟩
      | succ j =>
        rw [List.getElem?_cons_succ] at h
        have := ht b (List.mem_of_getElem? h)
        omega
    · rw [List.getElem?_append_right (by omega)] at h
      obtain ⟨k, hk, hk'⟩ := en_edge x _ b h hb
      refine ⟨k + 1, by simp; omega, ?_⟩
      unfold bb at hk' ⊢
      rw [List.take_succ_cons, en_cons, List.length_append]
      omega
theorem occ_pre (x y : List Nat) (k : Nat) : occ x y k = true ↔ k ≤ x.length ∧ ∃ r, x.drop k = y ++ r := by
  unfold occ
  simp only [Bool.and_eq_true, decide_eq_true_eq, beq_iff_eq]
  constructor
  · rintro ⟨h1, h2⟩
    refine ⟨by omega, (x.drop k).drop y.length, ?_⟩
    have := List.take_append_drop y.length (x.drop k)
    rw [h2] at this
    exact this.symm
  · rintro ⟨h1, r, hr⟩
    have hl := congrArg List.length hr
    rw [List.length_drop, List.length_append] at hl
    exact ⟨by omega, by rw [hr, List.take_left]⟩
theorem en_ne {y : List Nat} (hy : y ≠ []) : en y ≠ [] := by
  cases y with
  | nil => exact absurd rfl hy
  | cons c y =>
    rw [en_cons]
    obtain ⟨l, t, e, _⟩ := enc_shape c
    rw [e]; simp
theorem en_occ {x y : List Nat} (hy : y ≠ []) (j : Nat) : occ (en x) (en y) j = true ↔ ∃ k, j = bb x k ∧ occ x y k = true := by
  constructor
  · intro h
    obtain ⟨hj, r, hr⟩ := (occ_pre _ _ _).mp h
    obtain ⟨c, y', rfl⟩ := List.exists_cons_of_ne_nil hy
    obtain ⟨l, t, e, hl, _⟩ := enc_shape c
    have hg : (en x)[j]? = some l := by
      have := congrArg (fun z : List Nat => z[0]?) hr
      simp only [List.getElem?_drop, Nat.add_zero] at this
      rw [this, en_cons, e]; rfl
    obtain ⟨k, hk, rfl⟩ := en_edge x j l hg hl
    rw [en_drop] at hr
    obtain ⟨r', hr'⟩ := en_prefix _ _ _ hr.symm
    exact ⟨k, rfl, (occ_pre _ _ _).mpr ⟨by omega, r', hr'⟩⟩
  · rintro ⟨k, rfl, h⟩
    obtain ⟨hk, r, hr⟩ := (occ_pre _ _ _).mp h
    refine (occ_pre _ _ _).mpr ⟨?_, en r, ?_⟩
    · rw [← bb_all]; exact bb_le hk (Nat.le_refl _)
    · rw [en_drop, hr, en_append]
theorem bb_needle {x y : List Nat} {k : Nat} (h : occ x y k = true) : bb x (k + y.length) = bb x k + (en y).length := by
  obtain ⟨_, r, hr⟩ := (occ_pre _ _ _).mp h
  rw [bb_add, hr, List.take_left]
theorem least {p : Nat → Prop} (h : ∃ k, p k) : ∃ k, p k ∧ ∀ j, j < k → ¬ p j := by
  obtain ⟨k, hk⟩ := h
  induction k using Nat.strongRecOn with
  | _ k ih =>
    by_cases hj : ∃ j, j < k ∧ p j
    · obtain ⟨j, h1, h2⟩ := hj
      exact ih j h1 h2
    · exact ⟨k, hk, fun j h1 h2 => hj ⟨j, h1, h2⟩⟩
theorem rest_en {x y : List Nat} (hy : y ≠ []) : ∀ (n i : Nat), x.length - i ≤ n → i ≤ x.length → sk (occ x y) y.length i = 0 → sk (occ (en x) (en y)) (en y).length (bb x i) = 0 → rest (en x) (en y) (bb x i) = (rest x y i).map (bb x) := by
  intro n
  induction n with
  | zero =>
    intro i hn hi _ _
    have hie : i = x.length := by omega
    have hz : ∀ k, i ≤ k → occ x y k = false := by
      intro k hk
      cases q : occ x y k with
      | false => rfl
      | true =>
        have := occ_le q
        have : 0 < y.length := List.length_pos_iff.mpr hy
        omega
    rw [rest_none hz, rest_none]
    · rfl
    · intro j hj
      cases q : occ (en x) (en y) j with
      | false => rfl
      | true =>
        have h1 := occ_le q
        have h2 : 0 < (en y).length := List.length_pos_iff.mpr (en_ne hy)
        rw [hie, bb_all] at hj
        omega
  | succ n ih =>
    intro i hn hi h1 h2
    by_cases hex : ∃ k, i ≤ k ∧ occ x y k = true
    · obtain ⟨k, ⟨hk1, hk2⟩, hmin⟩ : ∃ k, (i ≤ k ∧ occ x y k = true) ∧ ∀ j, i ≤ j → j < k → occ x y j = false := by
        obtain ⟨k, hk, hmin⟩ := least hex
        refine ⟨k, hk, fun j h1 h2 => ?_⟩
        cases q : occ x y j with
        | false => rfl
        | true => exact absurd ⟨h1, q⟩ (hmin j h2)
      have hl := occ_le hk2
      have hm : 0 < y.length := List.length_pos_iff.mpr hy
      have hm2 : 0 < (en y).length := List.length_pos_iff.mpr (en_ne hy)
      have ho : occ (en x) (en y) (bb x k) = true := (en_occ hy _).mpr ⟨k, rfl, hk2⟩
      have hmin2 : ∀ j, bb x i ≤ j → j < bb x k → occ (en x) (en y) j = false := by
        intro j ha hb
        cases q : occ (en x) (en y) j with
        | false => rfl
        | true =>
          obtain ⟨k', rfl, hk'⟩ := (en_occ hy _).mp q
          have hl' := occ_le hk'
          have c1 : i ≤ k' := by
            rcases Nat.lt_or_ge k' i with c | c
            · have := bb_lt c hi; omega
            · exact c
          have c2 : k' < k := by
            rcases Nat.lt_or_ge k' k with c | c
            · exact c
            · have := bb_le (x := x) c (by omega); omega
          rw [hmin k' c1 c2] at hk'; cases hk'
      have s1 : pk (occ x y) y.length k = true := pk_of (by
        have := sk_stay h1 (k - i) fun j a b => hmin j a (by omega)
        rw [show i + (k - i) = k by omega] at this; exact this) hk2
      have hbk := bb_le (x := x) hk1 (by omega)
      have s2 : pk (occ (en x) (en y)) (en y).length (bb x k) = true := pk_of (by
        have := sk_stay h2 (bb x k - bb x i) fun j a b => hmin2 j a (by omega)
        rw [show bb x i + (bb x k - bb x i) = bb x k by omega] at this; exact this) ho
      rw [(rest_some hy h1 hk1 hk2 hmin).1, (rest_some (en_ne hy) h2 hbk ho hmin2).1, List.map_cons, ← bb_needle hk2]
      congr 1
      refine ih (k + y.length) (by omega) (by omega) (sk_behind hm s1) ?_
      rw [bb_needle hk2]
      exact sk_behind hm2 s2
    · have hz : ∀ k, i ≤ k → occ x y k = false := by
        intro k hk
        cases q : occ x y k with
        | false => rfl
        | true => exact absurd ⟨k, hk, q⟩ hex
      rw [rest_none hz, rest_none]
      · rfl
      · intro j hj
        cases q : occ (en x) (en y) j with
        | false => rfl
        | true =>
          obtain ⟨k', rfl, hk'⟩ := (en_occ hy _).mp q
          have hl' := occ_le hk'
          have c1 : i ≤ k' := by
            rcases Nat.lt_or_ge k' i with c | c
            · have := bb_lt c hi; omega
            · exact c
          rw [hz k' c1] at hk'; cases hk'
theorem picks_en {x y : List Nat} (hy : y ≠ []) : picks (en x) (en y) = (picks x y).map (bb x) := by
  rw [picks_rest hy, picks_rest (en_ne hy)]
  have := rest_en (x := x) hy x.length 0 (by omega) (Nat.zero_le _) rfl (by rw [bb_zero]; rfl)
  rw [bb_zero] at this
  exact this
/-- where the piece before cut `j` begins -/
def back (m : Nat) (cs : List Nat) (j : Nat) : Nat := if j = 0 then 0 else cs.getD (j - 1) 0 + m
theorem parts_get (x : List Nat) (m : Nat) : ∀ (cs : List Nat) (a j c : Nat), cs[j]? = some c → (partsL x m a cs)[j]? = some ((x.drop (if j = 0 then a else cs.getD (j - 1) 0 + m)).take (c - (if j = 0 then a else cs.getD (j - 1) 0 + m)))
  | [], _, _, _, h => by simp at h
  | d :: r, a, 0, c, h => by
    simp at h; subst h
    rfl
  | d :: r, a, j + 1, c, h => by
    rw [List.getElem?_cons_succ] at h
    have ih := parts_get x m r (d + m) j c h
    show (partsL x m (d + m) r)[j]? = _
    rw [ih]
    cases j with
    | zero => rfl
    | succ j => rfl
theorem back_le {x y : List Nat} {j c : Nat} (h : (picks x y)[j]? = some c) : back y.length (picks x y) j ≤ c ∧ c ≤ x.length := by
  refine ⟨?_, Nat.le_of_lt (picks_get h).2.2.1⟩
  unfold back
  split
  · exact Nat.zero_le _
  · rename_i hj
    obtain ⟨i, rfl⟩ : ∃ i, j = i + 1 := ⟨j - 1, by omega⟩
    have hlt : i < (picks x y).length := by
      obtain ⟨q, _⟩ := List.getElem?_eq_some_iff.mp h
      omega
    have := picks_gap (List.getElem?_eq_getElem hlt) h
    rw [Nat.add_sub_cancel, List.getD_eq_getElem?_getD, List.getElem?_eq_getElem hlt]
    exact this
theorem bb_piece {x : List Nat} {a c : Nat} (h : a ≤ c) : bb x c = bb x a + (en ((x.drop a).take (c - a))).length := by
  rw [← bb_add]; congr 1; omega
set_option maxRecDepth 100000 in
set_option maxHeartbeats 8000000 in
open_top hd06 for PySem.Challenge.rw_dm0001_06
theorem lit_0 : Str.ofString "" = mkS [] := by decide +kernel
noncomputable abbrev KK (w : World) : Frag := hd06.heap_39 w.params
abbrev PP : Program := PySem.Challenge.rw_dm0001_06.row.prog
section
variable {prog : Program} {w : World} {A : Around} {E : Value → Shared → Prop} {own : Mode} {names : List (Str × NameKind)} {s₀ s : Shared} {env : Env} {vars : List (Str × Value)} {nw : List (Addr × Obj)} {pos : Pos} {Q : Value → Shared → Prop}
theorem n_len (I : St own names s₀ env vars nw s) (G : Glb (KK w) s₀.heap) (hx : names.lookup ("len" : Str) = some .globalImplicit) (h : Q (.builtin "len") s) : wpAny (model prog w) A (eval (.Name "len" pos) env) Q E s := r_builtin I G rfl boot_len h hx
theorem n_list (I : St own names s₀ env vars nw s) (G : Glb (KK w) s₀.heap) (hx : names.lookup ("list" : Str) = some .globalImplicit) (h : Q (.type "list") s) : wpAny (model prog w) A (eval (.Name "list" pos) env) Q E s := r_builtin I G rfl PyProof.Rows.boot_list h hx
theorem n_chr (I : St own names s₀ env vars nw s) (G : Glb (KK w) s₀.heap) (hx : names.lookup ("chr" : Str) = some .globalImplicit) (h : Q (.builtin "chr") s) : wpAny (model prog w) A (eval (.Name "chr" pos) env) Q E s := r_builtin I G rfl bootS_chr h hx
theorem n_ord (I : St own names s₀ env vars nw s) (G : Glb (KK w) s₀.heap) (hx : names.lookup ("ord" : Str) = some .globalImplicit) (h : Q (.builtin "ord") s) : wpAny (model prog w) A (eval (.Name "ord" pos) env) Q E s := r_builtin I G rfl bootS_ord h hx
theorem n_bytes (I : St own names s₀ env vars nw s) (G : Glb (KK w) s₀.heap) (hx : names.lookup ("bytes" : Str) = some .globalImplicit) (h : Q (.type "bytes") s) : wpAny (model prog w) A (eval (.Name "bytes" pos) env) Q E s := r_builtin I G rfl boot_bytes h hx
theorem n_findall (I : St own names s₀ env vars nw s) (G : Glb (KK w) s₀.heap) (hx : names.lookup ("_findall" : Str) = some .globalImplicit) (h : Q (.ref 21) s) : wpAny (model prog w) A (eval (.Name "_findall" pos) env) Q E s := r_global I G rfl h hx
theorem n_law_sign (I : St own names s₀ env vars nw s) (G : Glb (KK w) s₀.heap) (hx : names.lookup ("_law_sign" : Str) = some .globalImplicit) (h : Q (.ref 28) s) : wpAny (model prog w) A (eval (.Name "_law_sign" pos) env) Q E s := r_global I G rfl h hx
theorem n_law_word (I : St own names s₀ env vars nw s) (G : Glb (KK w) s₀.heap) (hx : names.lookup ("_law_word" : Str) = some .globalImplicit) (h : Q (.ref 35) s) : wpAny (model prog w) A (eval (.Name "_law_word" pos) env) Q E s := r_global I G rfl h hx
theorem n_law_octets (I : St own names s₀ env vars nw s) (G : Glb (KK w) s₀.heap) (hx : names.lookup ("_law_octets" : Str) = some .globalImplicit) (h : Q (.ref 42) s) : wpAny (model prog w) A (eval (.Name "_law_octets" pos) env) Q E s := r_global I G rfl h hx
end
local macro_rules | `(tactic| walk_at "lit") => `(tactic| first | exact lit_0)
local macro_rules | `(tactic| walk_at "glb") => `(tactic| first
  | ((with_reducible refine' n_len ?hI ?hG ?hx ?_); (case hI => assumption); (case hG => assumption); (case hx => rfl))
  | ((with_reducible refine' n_list ?hI ?hG ?hx ?_); (case hI => assumption); (case hG => assumption); (case hx => rfl))
  | ((with_reducible refine' n_chr ?hI ?hG ?hx ?_); (case hI => assumption); (case hG => assumption); (case hx => rfl))
  | ((with_reducible refine' n_ord ?hI ?hG ?hx ?_); (case hI => assumption); (case hG => assumption); (case hx => rfl))
  | ((with_reducible refine' n_bytes ?hI ?hG ?hx ?_); (case hI => assumption); (case hG => assumption); (case hx => rfl))
  | ((with_reducible refine' n_findall ?hI ?hG ?hx ?_); (case hI => assumption); (case hG => assumption); (case hx => rfl))
  | ((with_reducible refine' n_law_sign ?hI ?hG ?hx ?_); (case hI => assumption); (case hG => assumption); (case hx => rfl))
  | ((with_reducible refine' n_law_word ?hI ?hG ?hx ?_); (case hI => assumption); (case hG => assumption); (case hx => rfl))
  | ((with_reducible refine' n_law_octets ?hI ?hG ?hx ?_); (case hI => assumption); (case hG => assumption); (case hx => rfl))
  | with_reducible refine' gm_bfind ?_
  | with_reducible refine' GM.split ?_)
local macro_rules | `(tactic| walk_at "mm") => `(tactic| first
  | ((with_reducible refine' r_name ?hI ?hv ?_ ?hd); (case hd => decide); (case hI => assumption); (case hv => rfl))
  | ((with_reducible refine' r_load ?hI ?hv ?_); (case hI => assumption); (case hv => rfl))
  | ((with_reducible refine' r_int ?hI ?_); (case hI => assumption); intro _ _ _)
  | ((with_reducible refine' r_strL ?hI ?hl ?_); (case hI => assumption); (case hl => walk_at "lit"); intro _ _ _)
  | with_reducible refine' wpAny_Constant_bool ?_
  | with_reducible refine' wpAny_Constant_none ?_
  | walk_at "glb"
  | with_reducible refine' wpAny_execs_cons ?_
  | with_reducible refine' wpAny_execs_nil ?_
  | ((with_reducible refine' wpAny_Assign_Name ?_ ?hs); (case hs => rfl))
  | with_reducible refine' wpAny_AugAssign_Name ?_
  | with_reducible refine' wpAny_Return_some ?_
  | with_reducible refine' wpAny_Return_none ?_
  | with_reducible refine' wpAny_Break ?_
  | with_reducible refine' wpAny_If ?_
  | with_reducible refine' wpAny_BinOp ?_
  | with_reducible refine' wpAny_UnaryOp ?_
  | ((with_reducible refine' wpAny_isTrue_Compare1 ?_ ?hm); (case hm => with_unfolding_all rfl))
  | ((with_reducible refine' wpAny_Compare1 ?_ ?hm); (case hm => with_unfolding_all rfl))
  | with_reducible refine' wpAny_isTrue_Not ?_
  | with_reducible refine' wpAny_isTrue_BoolOp ?_
  | with_reducible refine' wpAny_allTrue_And_cons ?_
  | with_reducible refine' wpAny_allTrue_And_nil ?_
  | with_reducible refine' wpAny_allTrue_Or_cons ?_
  | with_reducible refine' wpAny_allTrue_Or_nil ?_
  | with_reducible refine' wpAny_IfExp ?_
  | with_reducible refine' List_ ?_
  | ((with_reducible refine' isTrue_chain ?_ ?hm); (case hm => with_unfolding_all rfl))
  | with_reducible refine' test_link ?_
  | with_reducible refine' t_last ?_
  | with_reducible refine' if_ff ?_
  | with_reducible refine' if_tt ?_
  | with_reducible refine' if_nt ?_
  | with_reducible refine' if_nf ?_
  | ((fail_if_success (with_reducible show wpAny _ _ (eval (Expr.Subscript _ (Expr.Slice _ _ _ _) _) _) _ _ _)); (with_reducible refine' Subscript_ ?_))
  | with_reducible refine' r_part_none ?_
  | with_reducible refine' r_part_some ?_
  | ((with_reducible refine' r_store ?hI ?hx ?_ ?hw); (case hI => assumption); (case hx => rfl); (case hw => rfl); intro _ _)
  | ((with_reducible refine' r_add ?hI ?_); (case hI => assumption); intro _ _ _)
  | ((with_reducible refine' r_iadd ?hI ?_); (case hI => assumption); intro _ _ _)
  | ((with_reducible refine' r_sub ?hI ?_); (case hI => assumption); intro _ _ _)
  | ((with_reducible refine' r_neg ?hI ?_); (case hI => assumption); intro _ _ _)
  | ((with_reducible refine' r_mod ?hI ?hb ?_); (case hI => assumption); (case hb => decide); intro _ _ _)
  | ((with_reducible refine' r_fdiv ?hI ?hb ?hc ?_); (case hI => assumption); (case hb => decide); (case hc => decide); intro _ _ _)
  | with_reducible refine' PyProof.Rows.gt_int ?_
  | with_reducible refine' PyProof.Rows.lt_int ?_
  | with_reducible refine' PyProof.Rows.ge_int ?_
  | with_reducible refine' PyProof.Rows.le_int ?_
  | with_reducible refine' PyProof.Rows.eq_int ?_
  | with_reducible refine' PyProof.Rows.ne_int ?_
  | with_reducible refine' wpAny_truthy_bool ?_
  | with_reducible refine' r_eqstr ?_
  | with_reducible refine' r_nestr ?_
  | with_reducible refine' r_instr ?_
  | with_reducible refine' r_nebool ?_
  | with_reducible refine' BoolOp_and ?_
  | with_reducible refine' BoolOp_or ?_
  | with_reducible refine' BoolOp_one ?_
  | ((with_reducible refine' MethodCall_ ?_ ?he); (case he => rfl))
  | ((with_reducible refine' Call_ ?_ ?he); (case he => rfl))
  | with_reducible refine' GM.find ?_
  | with_reducible refine' GM.join ?_
  | with_reducible refine' GM.replace ?_
  | ((with_reducible refine' callWith_K ?hK ?hk ?_ ?he ?hp); (case hK => exact inK_of (by assumption) (by assumption)); (case hk => rfl); (case he => rfl); (case hp => rfl))
  | ((with_reducible show Frag.In _ _ ∧ _); refine ⟨inK_of (by assumption) (by assumption), ?_⟩)
  | ((with_reducible refine' callWith_builtin1 ?_ ?he ?hp); (case he => rfl); (case hp => rfl))
  | ((with_reducible refine' callWith_method1 ?_ ?he ?hp); (case he => rfl); (case hp => rfl))
  | ((with_reducible refine' callWith_type1 ?_ ?he ?hp); (case he => rfl); (case hp => rfl))
  | ((with_reducible refine' spliced_more ?_ ?he); (case he => rfl))
  | with_reducible refine' spliced_none ?_
  | ((with_reducible refine' wpAny_isTrue_value ?_ ?he); (case he => rfl)))

set_option maxRecDepth 100000 in
theorem call_findall {w : World} {A : Around} {E : Value → Shared → Prop} {s : Shared} (R : Rm 1 A) (G : Glb (KK w) s.heap) (hb : AllBare s.gens) {x y : List Nat} (hx : x.length ≤ 1000000) (hy : y.length ≤ 1000000) {t u : Tok} {Q : Value → Shared → Prop}
    (h : ∀ a s₃, Ext s s₃ → Lists PP w A s a s₃ (picks x y).length (fun j v => ∃ k t, (picks x y)[j]? = some k ∧ v = .int ((k : Nat) : Int) t) → Q (.ref a) s₃) :
    wpAny (model PP w) A (call (.ref 21) [.str (mkS x) t, .str (mkS y) u]) Q E s := by
  have hpl : (picks x y).length ≤ x.length := by
    unfold picks; split
    · simp
    · exact Nat.le_trans (List.length_filter_le _ _) (by simp)
  refine r_callgen [("haystack", .local), ("needle", .local), ("i", .local), ("len", .globalImplicit)] [("haystack", .str (mkS x) t), ("needle", .str (mkS y) u)] (picks x y).length _ (by rw [sizeLine_val]; omega) R.handled R.room (G.inK 21 _ rfl) rfl rfl G.lim (codeRec_of G.inK rfl) rfl rfl rfl rfl rfl rfl rfl rfl rfl rfl hb ?_ h
  intro env a S so nm qn g s₁ haS hso hco I
  have hS := (I.news _ (.head _)).1
  refine seg_func ?_
  refine seg_execs_cons (seg_stmt ?_)
  repeat walk_at "mm"
  refine r_truthy_str (by assumption) (by rw [sizeLine_val]; omega) ?_
  intro s₂ I
  by_cases hy0 : y = []
  · rw [if_pos (by simp [hy0])]
    repeat walk_at "mm"
    have e : picks x y = [] := by unfold picks; rw [if_pos hy0]
    rw [e]
    exact seg_end (.ok (.ret .none)) (gEnd_of I hS)
  rw [if_neg (by simp [hy0])]
  repeat walk_at "mm"
  refine seg_execs_cons (seg_stmt ?_)
  repeat walk_at "mm"
  refine seg_execs_cons (seg_While fun p => ?_)
  refine seg_ind (fun k n s₀ s' => ∃ (i : Int) (j : Nat) (t' : Tok) (so : Obj), i = j ∧ k = n ∧ n = (rest x y j).length ∧ j ≤ x.length ∧ sk (occ x y) y.length j = 0 ∧ (∃ pre, picks x y = pre ++ rest x y j) ∧ so.cls = .type "list" ∧ s₀.heap.get? S = some so ∧
    St ⟨true, some s₀.gens⟩ [("haystack", .local), ("needle", .local), ("i", .local), ("len", .globalImplicit)] s env [("haystack", .str (mkS x) t), ("needle", .str (mkS y) u), ("i", .int i t')] [(S, so), (a, genObj g nm qn)] s') ?_ (picks x y).length _ _ _ ?_
  · rintro k n s₀ s' ⟨i, j, t', so, hi, rfl, hn, hj, hsk, ⟨pre, hpre⟩, hso, hS, I⟩ ih
    refine seg_whileLoop ?_
    repeat walk_at "mm"
    refine seg_execs_cons (seg_stmt ?_)
    repeat walk_at "mm"
    refine r_find (by assumption) hi ?_ ?_
    · intro hno t₂ s₂ I₂
      repeat walk_at "mm"
      refine seg_execs_cons (seg_stmt ?_)
      repeat walk_at "mm"
      rw [if_pos (by decide)]
      repeat walk_at "mm"
      refine seg_leaf (.ok .next) ?_
      rw [rest_none hno] at hn
      subst hn
      exact seg_end (.ok (.ret .none)) (gEnd_of (by assumption) hS)
    · intro q hq hoq hbef t₂ s₂ I₂
      repeat walk_at "mm"
      refine seg_execs_cons (seg_stmt ?_)
      repeat walk_at "mm"
      rw [if_neg (by simp only [decide_eq_true_eq]; omega)]
      repeat walk_at "mm"
      refine seg_execs_cons ?_
      obtain ⟨hr, hsk'⟩ := rest_some hy0 hsk hq hoq hbef
      have hle := occ_le hoq
      rw [hr, List.length_cons] at hn
      subst hn
      refine seg_Expr_Yield rfl rfl rfl ?_ hco ?_
      · repeat walk_at "mm"
        intro kap hkap
        refine gYield_of (by assumption) hS (fun p hp => by rcases List.mem_cons.mp hp with rfl | hp; exact haS; cases hp) ?_ ?_
        · refine ⟨q, _, ?_, rfl⟩
          rw [hpre, hr]
          simp
        · intro so' s'' hso' hS' I'
          refine hkap .none s'' ?_
          refine seg_execs_cons (seg_stmt ?_)
          repeat walk_at "mm"
          refine r_lenstr (by assumption) (by rw [sizeLine_val]; omega) ?_
          intro t₃ s₃ I₃
          repeat walk_at "mm"
          refine seg_execs_nil ?_
          refine seg_again rfl (ih _ _ _ _ (by omega) ⟨_, q + y.length, _, so', ?_, rfl, rfl, hle, hsk', ?_, hso', hS', St.sub (by assumption) (by exact ⟨rfl, rfl, rfl, trivial⟩) (fun _ h => h)⟩)
          · omega
          · exact ⟨pre ++ [q], by rw [hpre, hr]; simp⟩
      · exact interactive_of I.eo
  · refine ⟨0, 0, _, so, rfl, rfl, ?_, Nat.zero_le _, rfl, ?_, hso, hS, St.sub (by assumption) (by exact ⟨rfl, rfl, rfl, trivial⟩) (fun _ h => h)⟩
    · rw [picks_rest hy0]
    · exact ⟨[], by rw [picks_rest hy0]; rfl⟩
set_option maxRecDepth 100000 in
theorem call_bfindall {w : World} {A : Around} {E : Value → Shared → Prop} {s : Shared} (R : Rm 1 A) (G : Glb (KK w) s.heap) (hb : AllBare s.gens) {x y : List Nat} (ox : Octs x) (oy : Octs y) (hx : x.length ≤ 1000000) (hy : y.length ≤ 1000000) {t u : Tok} {Q : Value → Shared → Prop}
    (h : ∀ a s₃, Ext s s₃ → Lists PP w A s a s₃ (picks x y).length (fun j v => ∃ k t, (picks x y)[j]? = some k ∧ v = .int ((k : Nat) : Int) t) → Q (.ref a) s₃) :
    wpAny (model PP w) A (call (.ref 21) [.bytes (mkB x) t, .bytes (mkB y) u]) Q E s := by
  have hpl : (picks x y).length ≤ x.length := by
    unfold picks; split
    · simp
    · exact Nat.le_trans (List.length_filter_le _ _) (by simp)
  refine r_callgen [("haystack", .local), ("needle", .local), ("i", .local), ("len", .globalImplicit)] [("haystack", .bytes (mkB x) t), ("needle", .bytes (mkB y) u)] (picks x y).length _ (by rw [sizeLine_val]; omega) R.handled R.room (G.inK 21 _ rfl) rfl rfl G.lim (codeRec_of G.inK rfl) rfl rfl rfl rfl rfl rfl rfl rfl rfl rfl hb ?_ h
  intro env a S so nm qn g s₁ haS hso hco I
  have hS := (I.news _ (.head _)).1
  refine seg_func ?_
  refine seg_execs_cons (seg_stmt ?_)
  repeat walk_at "mm"
  refine r_truthy_bytes (by assumption) (by rw [sizeLine_val]; omega) ?_
  intro s₂ I
  by_cases hy0 : y = []
  · rw [if_pos (by simp [hy0])]
    repeat walk_at "mm"
    have e : picks x y = [] := by unfold picks; rw [if_pos hy0]
    rw [e]
    exact seg_end (.ok (.ret .none)) (gEnd_of I hS)
  rw [if_neg (by simp [hy0])]
  repeat walk_at "mm"
  refine seg_execs_cons (seg_stmt ?_)
  repeat walk_at "mm"
  refine seg_execs_cons (seg_While fun p => ?_)
  refine seg_ind (fun k n s₀ s' => ∃ (i : Int) (j : Nat) (t' : Tok) (so : Obj), i = j ∧ k = n ∧ n = (rest x y j).length ∧ j ≤ x.length ∧ sk (occ x y) y.length j = 0 ∧ (∃ pre, picks x y = pre ++ rest x y j) ∧ so.cls = .type "list" ∧ s₀.heap.get? S = some so ∧
    St ⟨true, some s₀.gens⟩ [("haystack", .local), ("needle", .local), ("i", .local), ("len", .globalImplicit)] s env [("haystack", .bytes (mkB x) t), ("needle", .bytes (mkB y) u), ("i", .int i t')] [(S, so), (a, genObj g nm qn)] s') ?_ (picks x y).length _ _ _ ?_
  · rintro k n s₀ s' ⟨i, j, t', so, hi, rfl, hn, hj, hsk, ⟨pre, hpre⟩, hso, hS, I⟩ ih
    refine seg_whileLoop ?_
    repeat walk_at "mm"
    refine seg_execs_cons (seg_stmt ?_)
    repeat walk_at "mm"
    refine r_bfind ox oy (by assumption) hi ?_ ?_
    · intro hno t₂ s₂ I₂
      repeat walk_at "mm"
      refine seg_execs_cons (seg_stmt ?_)
      repeat walk_at "mm"
      rw [if_pos (by decide)]
      repeat walk_at "mm"
      refine seg_leaf (.ok .next) ?_
      rw [rest_none hno] at hn
      subst hn
      exact seg_end (.ok (.ret .none)) (gEnd_of (by assumption) hS)
    · intro q hq hoq hbef t₂ s₂ I₂
      repeat walk_at "mm"
      refine seg_execs_cons (seg_stmt ?_)
      repeat walk_at "mm"
      rw [if_neg (by simp only [decide_eq_true_eq]; omega)]
      repeat walk_at "mm"
      refine seg_execs_cons ?_
      obtain ⟨hr, hsk'⟩ := rest_some hy0 hsk hq hoq hbef
      have hle := occ_le hoq
      rw [hr, List.length_cons] at hn
      subst hn
      refine seg_Expr_Yield rfl rfl rfl ?_ hco ?_
      · repeat walk_at "mm"
        intro kap hkap
        refine gYield_of (by assumption) hS (fun p hp => by rcases List.mem_cons.mp hp with rfl | hp; exact haS; cases hp) ?_ ?_
        · refine ⟨q, _, ?_, rfl⟩
          rw [hpre, hr]
          simp
        · intro so' s'' hso' hS' I'
          refine hkap .none s'' ?_
          refine seg_execs_cons (seg_stmt ?_)
          repeat walk_at "mm"
          refine r_lenbytes (by assumption) (by rw [sizeLine_val]; omega) ?_
          intro t₃ s₃ I₃
          repeat walk_at "mm"
          refine seg_execs_nil ?_
          refine seg_again rfl (ih _ _ _ _ (by omega) ⟨_, q + y.length, _, so', ?_, rfl, rfl, hle, hsk', ?_, hso', hS', St.sub (by assumption) (by exact ⟨rfl, rfl, rfl, trivial⟩) (fun _ h => h)⟩)
          · omega
          · exact ⟨pre ++ [q], by rw [hpre, hr]; simp⟩
      · exact interactive_of I.eo
  · refine ⟨0, 0, _, so, rfl, rfl, ?_, Nat.zero_le _, rfl, ?_, hso, hS, St.sub (by assumption) (by exact ⟨rfl, rfl, rfl, trivial⟩) (fun _ h => h)⟩
    · rw [picks_rest hy0]
    · exact ⟨[], by rw [picks_rest hy0]; rfl⟩

def sg (i : Int) : Nat := if (i % 1112064).toNat < 55296 then (i % 1112064).toNat else (i % 1112064).toNat + 2048
theorem sg_le (i : Int) : sg i ≤ 1114111 := by unfold sg; split <;> omega
set_option maxHeartbeats 4000000 in
set_option maxRecDepth 100000 in
theorem call_sign {w : World} {A : Around} {E : Value → Shared → Prop} {s : Shared} (R : Rm 1 A) (G : Glb (KK w) s.heap) (hb : AllBare s.gens) {i : Int} {t : Tok} {Q : Value → Shared → Prop}
    (h : ∀ t s', Ext s s' → Q (.str (mkS [sg i]) t) s') :
    wpAny (model PP w) A (call (.ref 28) [.int i t]) Q E s := by
  refine r_call [("number", .local), ("chr", .globalImplicit)] [("number", .int i t)] R.room (G.inK 28 _ rfl) rfl rfl G.lim (codeRec_of G.inK rfl) rfl rfl rfl rfl rfl rfl rfl rfl rfl rfl hb ?_
  intro env s₁ I
  repeat walk_at "mm"
  have hs : sg i = if (i % 1112064).toNat < 55296 then (i % 1112064).toNat else (i % 1112064).toNat + 2048 := rfl
  by_cases h1 : i % 1112064 < 55296
  · rw [if_pos (by simpa using h1)]
    repeat walk_at "mm"
    refine r_chr (n := sg i) (by assumption) (by rw [hs, if_pos (by omega)]; omega) (sg_le i) ?_
    intro _ _ _
    repeat walk_at "mm"
    exact h _ _ (St.toExt (by assumption))
  · rw [if_neg (by simpa using h1)]
    repeat walk_at "mm"
    refine r_chr (n := sg i) (by assumption) (by rw [hs, if_neg (by omega)]; omega) (sg_le i) ?_
    intro _ _ _
    repeat walk_at "mm"
    exact h _ _ (St.toExt (by assumption))
abbrev NW : List (Str × NameKind) := [("number", .local), ("signs", .local), ("word", .local)]
set_option maxHeartbeats 4000000 in
set_option maxRecDepth 100000 in
theorem call_word {w : World} {A : Around} {E : Value → Shared → Prop} {s : Shared} (R : Rm 1 A) (G : Glb (KK w) s.heap) (hb : AllBare s.gens) {n : Nat} {i : Int} (hi : i = n) (hn : n ≤ 1000000) {l : Addr} {ys : Array Value} {kl a b : Nat} (hl : s.heap.get? l = some (listObj ys kl)) (hp : Paired VS [[a], [b]] ys.toList) {t : Tok} {Q : Value → Shared → Prop}
    (h : ∀ t s', Ext s s' → Q (.str (mkS (word [a, b] n)) t) s') :
    wpAny (model PP w) A (call (.ref 35) [.int i t, .ref l]) Q E s := by
  subst hi
  refine r_call NW [("number", .int n t), ("signs", .ref l)] R.room (G.inK 35 _ rfl) rfl rfl G.lim (codeRec_of G.inK rfl) rfl rfl rfl rfl rfl rfl rfl rfl rfl rfl hb ?_
  intro env s₁ I
  repeat walk_at "mm"
  refine r_while (fun k s' => ∃ acc i t u, k ≤ n ∧ i = (k : Int) ∧ word [a, b] n = word [a, b] k ++ acc ∧ acc.length ≤ n - k ∧ St fn NW s env [("number", .int i t), ("signs", .ref l), ("word", .str (mkS acc) u)] [] s') n ⟨[], _, _, _, Nat.le_refl _, rfl, by simp, by simp, St.sub (by assumption) (by exact ⟨rfl, rfl, rfl, trivial⟩) (by simp)⟩ ?_
  rintro k s₂ ⟨acc, i, t, u, hk, hi, hw, hl', I⟩
  repeat walk_at "mm"
  by_cases hk0 : 0 < k
  · rw [if_pos (by simp only [decide_eq_true_eq]; omega)]
    repeat walk_at "mm"
    have hlt : (k - 1) % 2 < 2 := Nat.mod_lt _ (by decide)
    have hc : ([[a], [b]] : List (List Nat))[(k - 1) % 2]? = some [[a, b].getD ((k - 1) % 2) 0] := by
      rcases (show (k - 1) % 2 = 0 ∨ (k - 1) % 2 = 1 by omega) with e | e <;> rw [e] <;> rfl
    obtain ⟨v, hv, tv, rfl⟩ := paired_get hp ((k - 1) % 2) _ hc
    refine r_itemlist (by assumption) (.inl hl) (by omega) (by omega) (by rw [show ((i - 1) % 2).toNat = (k - 1) % 2 by omega]; simpa using hv) ?_
    repeat walk_at "mm"
    refine r_addstr (by assumption) (by rw [sizeLine_val]; simp only [List.length_singleton]; omega) ?_
    intro _ _ _
    repeat walk_at "mm"
    refine ⟨(k - 1) / 2, by omega, _, _, _, _, by omega, ?_, ?_, ?_, St.sub (by assumption) (by exact ⟨rfl, rfl, rfl, trivial⟩) (by simp)⟩
    · omega
    · rw [hw, word_pos _ _ hk0 (by simp)]; simp
    · simp; omega
  · rw [if_neg (by simp only [decide_eq_true_eq]; omega)]
    repeat walk_at "mm"
    have e : k = 0 := by omega
    subst e
    rw [word_zero, List.nil_append] at hw
    rw [← hw]
    exact h _ _ (St.toExt (by assumption))
abbrev toI (l : List Nat) : List Int := l.map fun (k : Nat) => (k : Int)
theorem enc1 {c : Nat} (h : c < 128) : toI (enc c) = [(c : Int)] := by unfold enc; rw [if_pos h]; rfl
theorem enc2 {c : Nat} (h1 : ¬ c < 128) (h2 : c < 2048) : toI (enc c) = [192 + (c : Int) / 64, 128 + (c : Int) % 64] := by unfold enc; rw [if_neg h1, if_pos h2]; simp
theorem enc3 {c : Nat} (h1 : ¬ c < 128) (h2 : ¬ c < 2048) (h3 : c < 65536) : toI (enc c) = [224 + (c : Int) / 4096] ++ [128 + (c : Int) / 64 % 64, 128 + (c : Int) % 64] := by unfold enc; rw [if_neg h1, if_neg h2, if_pos h3]; simp
theorem enc4 {c : Nat} (h1 : ¬ c < 128) (h2 : ¬ c < 2048) (h3 : ¬ c < 65536) : toI (enc c) = [240 + (c : Int) / 262144, 128 + (c : Int) / 4096 % 64] ++ [128 + (c : Int) / 64 % 64, 128 + (c : Int) % 64] := by unfold enc; rw [if_neg h1, if_neg h2, if_neg h3]; simp
theorem en_take {x : List Nat} {i c : Nat} (h : x[i]? = some c) : toI (en (x.take (i + 1))) = toI (en (x.take i)) ++ toI (enc c) := by
  rw [List.take_add_one, h, en_append, toI, List.map_append]
  congr 1
  simp [en]
abbrev NO : List (Str × NameKind) := [("text", .local), ("octets", .local), ("sign", .local), ("number", .local), ("ord", .globalImplicit), ("bytes", .globalImplicit)]
set_option maxHeartbeats 4000000 in
set_option maxRecDepth 100000 in
theorem call_octets {w : World} {A : Around} {E : Value → Shared → Prop} {s : Shared} (R : Rm 1 A) (G : Glb (KK w) s.heap) (hb : AllBare s.gens) {x : List Nat} (hx : ∀ c ∈ x, c ≤ 1114111) (hxl : x.length ≤ 100000) {t : Tok} {Q : Value → Shared → Prop}
    (h : ∀ t s', Ext s s' → Q (.bytes (mkB (en x)) t) s') :
    wpAny (model PP w) A (call (.ref 42) [.str (mkS x) t]) Q E s := by
  refine r_call NO [("text", .str (mkS x) t)] R.room (G.inK 42 _ rfl) rfl rfl G.lim (codeRec_of G.inK rfl) rfl rfl rfl rfl rfl rfl rfl rfl rfl rfl hb ?_
  intro env s₁ I
  refine r_seq (fun s' => ∃ ol, St fn NO s env [("text", .str (mkS x) t), ("octets", .ref ol)] [(ol, listObj #[] 0)] s') ?_ ?_
  · repeat walk_at "mm"
    refine r_newlist (by assumption) (by rw [sizeLine_val]; simp) ?_
    intro D _ hD _
    repeat walk_at "mm"
    exact ⟨rfl, D, St.sub (by assumption) (by exact ⟨rfl, rfl, trivial⟩) (fun _ hq => hq)⟩
  rintro s₂ ⟨ol, I⟩
  refine r_seq (fun s' => ∃ oa k, Paired VI (toI (en x)) oa.toList ∧ St fn NO s env [("octets", .ref ol)] [(ol, listObj oa k)] s') ?_ ?_
  · refine r_for (names := NO) (s₀ := s) (V := fun _ (p : Array Value × Nat) => [("text", .str (mkS x) t), ("octets", .ref ol)]) (N := fun _ p => [(ol, listObj p.1 p.2)]) (Φ := fun i p => Paired VI (toI (en (x.take i))) p.1.toList) rfl (fun _ => rfl) (by simp) ?_
    repeat walk_at "mm"
    refine ⟨x.length, _, [], (#[], 0), src_str (A := A.deeper env) R.handled, I, .nil, (by simp), ?_, ?_⟩
    · rintro i v ⟨oa, ka⟩ io s₃ hi' ⟨c, u, hc, rfl⟩ hacc hio I₃
      simp only at hacc
      have es := en_take hc
      have hal : oa.size ≤ 400000 := by
        have h1 := hacc.length
        have h2 := en_len (x.take i)
        simp only [toI, List.length_map, Array.length_toList] at h1
        rw [List.length_take] at h2
        omega
      have hne : ∀ p ∈ [io], p.1 ≠ ol := fun p hp => by rw [List.mem_singleton.mp hp]; exact io_ne' I₃ hio (.head _)
      refine r_seq (fun s' => ∃ tn, St fn NO s env [("text", .str (mkS x) t), ("octets", .ref ol), ("number", .int (c : Int) tn)] [io, (ol, listObj oa ka)] s') ?_ ?_
      · repeat walk_at "mm"
        refine r_ord (by assumption) ?_
        intro _ _ _
        repeat walk_at "mm"
        exact ⟨rfl, _, St.sub (by assumption) (by exact ⟨rfl, rfl, rfl, trivial⟩) (fun _ hq => hq)⟩
      rintro s₄ ⟨tn, I⟩
      repeat walk_at "mm"
      by_cases h1 : c < 128
      · rw [if_pos (by simp only [decide_eq_true_eq]; omega)]
        repeat walk_at "mm"
        refine r_expr (St.eo (by assumption)) ?_
        repeat walk_at "mm"
        refine r_getappend (by assumption) (.inr (.tail _ (.head _))) ?_
        repeat walk_at "mm"
        refine r_append (ys := oa) (k := ka) (nw₁ := [io]) (by assumption) (.tail _ (.head _)) (fun q hq => by rw [List.mem_singleton.mp hq]; exact .head _) hne (by rw [sizeLine_val]; omega) ?_
        intro k₁ s₅ I₅
        refine ⟨rfl, ?_⟩
        repeat walk_at "mm"
        refine ⟨(oa.push (.int (c : Int) tn), k₁), ?_, St.sub I₅ (by exact ⟨rfl, rfl, trivial⟩) (fun q hq => by simp only [List.mem_cons, List.not_mem_nil, or_false] at hq ⊢; rcases hq with h | h <;> simp [h])⟩
        show Paired VI (toI (en (x.take (i + 1)))) (oa.push _).toList
        rw [es, enc1 h1, Array.toList_push]
        exact paired_append hacc (.cons ⟨_, rfl⟩ .nil)
      · rw [if_neg (by simp only [decide_eq_true_eq]; omega)]
        repeat walk_at "mm"
        by_cases h2 : c < 2048
        · rw [if_pos (by simp only [decide_eq_true_eq]; omega)]
          repeat walk_at "mm"
          refine r_expr (St.eo (by assumption)) ?_
          repeat walk_at "mm"
          refine r_getextend (by assumption) (.inr (.tail _ (.head _))) ?_
          repeat walk_at "mm"
          refine r_newlist (by assumption) (by rw [sizeLine_val]; simp) ?_
          intro D s₅ hD I₅
          repeat walk_at "mm"
          refine r_extend (ys := oa) (k := ka) (nw₁ := [io]) (by assumption) (.tail _ (.tail _ (.head _))) Held.head (fun q hq => by rw [List.mem_singleton.mp hq]; exact .tail _ (.head _)) hne (by rw [sizeLine_val]; simp; omega) ?_
          intro k₁ s₆ I₆
          refine ⟨rfl, ?_⟩
          repeat walk_at "mm"
          refine ⟨(_, k₁), ?_, St.sub I₆ (by exact ⟨rfl, rfl, trivial⟩) (fun q hq => by simp only [List.mem_cons, List.not_mem_nil, or_false] at hq ⊢; rcases hq with h | h; exact .inr h; exact .inl h)⟩
          show Paired VI (toI (en (x.take (i + 1)))) (oa ++ _).toList
          rw [es, enc2 h1 h2, Array.toList_append]
          exact paired_append hacc (.cons ⟨_, rfl⟩ (.cons ⟨_, rfl⟩ .nil))
        · rw [if_neg (by simp only [decide_eq_true_eq]; omega)]
          refine r_seq (fun s' => ∃ ob k, Paired VI (toI (en (x.take i)) ++ (toI (enc c)).take ((toI (enc c)).length - 2)) ob.toList ∧ ob.size ≤ 400002 ∧ St fn NO s env [("text", .str (mkS x) t), ("octets", .ref ol), ("number", .int (c : Int) tn)] [io, (ol, listObj ob k)] s') ?_ ?_
          · by_cases h3 : c < 65536
            · repeat walk_at "mm"
              rw [if_pos (by simp only [decide_eq_true_eq]; omega)]
              repeat walk_at "mm"
              refine r_expr (St.eo (by assumption)) ?_
              repeat walk_at "mm"
              refine r_getappend (by assumption) (.inr (.tail _ (.head _))) ?_
              repeat walk_at "mm"
              refine r_append (ys := oa) (k := ka) (nw₁ := [io]) (by assumption) (.tail _ (.head _)) (fun q hq => by rw [List.mem_singleton.mp hq]; exact .head _) hne (by rw [sizeLine_val]; omega) ?_
              intro k₁ s₅ I₅
              refine ⟨rfl, ?_⟩
              repeat walk_at "mm"
              refine ⟨rfl, _, k₁, ?_, ?_, St.sub I₅ (by exact ⟨rfl, rfl, rfl, trivial⟩) (fun q hq => by simp only [List.mem_cons, List.not_mem_nil, or_false] at hq ⊢; rcases hq with h | h; exact .inr h; exact .inl h)⟩
              · rw [enc3 h1 h2 h3, Array.toList_push]
                exact paired_append hacc (.cons ⟨_, rfl⟩ .nil)
              · rw [Array.size_push]; omega
            · repeat walk_at "mm"
              rw [if_neg (by simp only [decide_eq_true_eq]; omega)]
              repeat walk_at "mm"
              refine r_expr (St.eo (by assumption)) ?_
              repeat walk_at "mm"
              refine r_getextend (by assumption) (.inr (.tail _ (.head _))) ?_
              repeat walk_at "mm"
              refine r_newlist (by assumption) (by rw [sizeLine_val]; simp) ?_
              intro D s₅ hD I₅
              repeat walk_at "mm"
              refine r_extend (ys := oa) (k := ka) (nw₁ := [io]) (by assumption) (.tail _ (.tail _ (.head _))) Held.head (fun q hq => by rw [List.mem_singleton.mp hq]; exact .tail _ (.head _)) hne (by rw [sizeLine_val]; simp; omega) ?_
              intro k₁ s₆ I₆
              refine ⟨rfl, ?_⟩
              repeat walk_at "mm"
              refine ⟨rfl, _, k₁, ?_, ?_, St.sub I₆ (by exact ⟨rfl, rfl, rfl, trivial⟩) (fun q hq => by simp only [List.mem_cons, List.not_mem_nil, or_false] at hq ⊢; rcases hq with h | h; exact .inr h; exact .inl h)⟩
              · rw [enc4 h1 h2 h3, Array.toList_append]
                exact paired_append hacc (.cons ⟨_, rfl⟩ (.cons ⟨_, rfl⟩ .nil))
              · rw [Array.size_append]; simp; omega
          rintro s₅ ⟨ob, kb, hob, hbl, I⟩
          repeat walk_at "mm"
          refine r_expr (St.eo (by assumption)) ?_
          repeat walk_at "mm"
          refine r_getextend (by assumption) (.inr (.tail _ (.head _))) ?_
          repeat walk_at "mm"
          refine r_newlist (by assumption) (by rw [sizeLine_val]; simp) ?_
          intro D s₆ hD I₆
          repeat walk_at "mm"
          refine r_extend (ys := ob) (k := kb) (nw₁ := [io]) (by assumption) (.tail _ (.tail _ (.head _))) Held.head (fun q hq => by rw [List.mem_singleton.mp hq]; exact .tail _ (.head _)) hne (by rw [sizeLine_val]; simp; omega) ?_
          intro k₁ s₇ I₇
          refine ⟨rfl, ?_⟩
          repeat walk_at "mm"
          refine ⟨(_, k₁), ?_, St.sub I₇ (by exact ⟨rfl, rfl, trivial⟩) (fun q hq => by simp only [List.mem_cons, List.not_mem_nil, or_false] at hq ⊢; rcases hq with h | h; exact .inr h; exact .inl h)⟩
          show Paired VI (toI (en (x.take (i + 1)))) (ob ++ _).toList
          have e : toI (enc c) = (toI (enc c)).take ((toI (enc c)).length - 2) ++ [128 + (c : Int) / 64 % 64, 128 + (c : Int) % 64] := by
            by_cases h3 : c < 65536
            · rw [enc3 h1 h2 h3]; rfl
            · rw [enc4 h1 h2 h3]; rfl
          rw [es, e, Array.toList_append, ← List.append_assoc]
          exact paired_append hob (.cons ⟨_, rfl⟩ (.cons ⟨_, rfl⟩ .nil))
    · rintro ⟨oa, ka⟩ s₃ hacc I₃
      simp only [List.take_length] at hacc
      exact ⟨rfl, oa, ka, hacc, I₃.sub (by exact ⟨rfl, trivial⟩) (fun _ hq => hq)⟩
  rintro s₃ ⟨oa, ka, hacc, I⟩
  repeat walk_at "mm"
  have hel := en_len x
  refine r_bytes (A := A.deeper env) R.handled (by assumption) (.inr (.head _)) hacc (en_oct hx) (by rw [sizeLine_val]; omega) ?_
  intro _ _ _
  repeat walk_at "mm"
  exact h _ _ (St.toExt (by assumption))

abbrev NL : List (Str × NameKind) := [("script", .local), ("numbers", .local), ("signs", .cell), ("needle", .local), ("haystack", .local), ("sought", .local), ("places", .local), ("starts", .local), ("place", .local), ("start", .local), ("piece", .local), ("len", .globalImplicit), ("_law_sign", .globalImplicit), ("_law_word", .globalImplicit), ("_law_octets", .globalImplicit), ("list", .globalImplicit), ("_findall", .globalImplicit)]
def nums (ns : List Int) : List Int := ns ++ [304, 71, 3, 15].drop ns.length
theorem nums_len (ns : List Int) (h : ns.length ≤ 63) : 4 ≤ (nums ns).length ∧ (nums ns).length ≤ 63 := by
  unfold nums
  rw [List.length_append, List.length_drop]
  simp only [List.length_cons, List.length_nil]
  omega
theorem picks_le (x y : List Nat) : (picks x y).length ≤ x.length := by
  unfold picks; split
  · simp
  · exact Nat.le_trans (List.length_filter_le _ _) (by simp)
theorem four_drop {t1 t2 t3 t4 : Tok} (n : Nat) : Paired VI ([304, 71, 3, 15].drop n) ([Value.int 304 t1, .int 71 t2, .int 3 t3, .int 15 t4].drop n) := paired_drop n (.cons ⟨_, rfl⟩ (.cons ⟨_, rfl⟩ (.cons ⟨_, rfl⟩ (.cons ⟨_, rfl⟩ .nil))))
structure P6 where
  pa : Array Value
  kp : Nat
  sa : Array Value
  ks : Nat
  tp : Tok
  ts : Tok
set_option maxHeartbeats 8000000 in
set_option maxRecDepth 100000 in
theorem law06 {w : World} {s : Shared} (G : Glb (KK w) s.heap) (hb : AllBare s.gens) {l : Addr} {vs : List Value} {ns : List Int} (hl : s.heap.get? l = some (listObj vs.toArray 0)) (hi : Paired VI ns vs) (hn : ns.length ≤ 63) :
    wpAny (model PP w) callerA (call (.ref 47) [.ref l]) (fun v s' => v = .bool true ∧ Ext s s') (fun _ _ => False) s := by
  have R : Rm 20 callerA := ⟨rfl, by decide, by decide⟩
  have hvl := hi.length
  refine r_call NL [("script", .ref l)] R.room (G.inK 47 _ rfl) rfl rfl G.lim (codeRec_of G.inK rfl) rfl rfl rfl rfl rfl rfl rfl rfl rfl rfl hb ?_
  intro env s₁ I
  refine r_seq (fun s' => ∃ nl na, Paired VI (nums ns) na.toList ∧ St fn NL s env [("numbers", .ref nl)] [(nl, listObj na 0)] s') ?_ ?_
  · repeat walk_at "mm"
    refine r_slicetmp (own := fn) (names := NL) (s₀ := s) ?_
    repeat walk_at "mm"
    refine r_newlist (by assumption) (by rw [sizeLine_val]; simp) ?_
    intro D s₂ hD I₂
    repeat walk_at "mm"
    refine r_lenlist (by assumption) (.inl hl) (by rw [sizeLine_val]; simp; omega) ?_
    intro _ _ _
    repeat walk_at "mm"
    refine ⟨D, _, 0, _, _, _, _, rfl, by assumption, Held.head, by rw [sizeLine_val]; simp, .int _ _, .none, ?_⟩
    intro D' s₃ hD' I₃
    rw [slicePick_from'] at I₃
    repeat walk_at "mm"
    refine r_addlist (by assumption) (.inl hl) Held.head (by rw [sizeLine_val]; simp; omega) ?_
    intro D2 s₄ hD2 I₄
    repeat walk_at "mm"
    refine ⟨rfl, D2, _, ?_, St.sub (by assumption) (by exact ⟨rfl, trivial⟩) (fun q hq => by rw [List.mem_singleton.mp hq]; exact .head _)⟩
    rw [nums, Array.toList_append]
    refine paired_append hi ?_
    rw [hvl]
    simpa using four_drop vs.length
  rintro s₂ ⟨nl, na, hna, I⟩
  have hlen := nums_len ns hn
  have hns : (nums ns).length = na.size := by rw [hna.length]; simp
  generalize nums ns = xs at *
  have x0 := List.getElem?_eq_getElem (show 0 < xs.length by omega)
  have x1 := List.getElem?_eq_getElem (show 1 < xs.length by omega)
  have x2 := List.getElem?_eq_getElem (show 2 < xs.length by omega)
  obtain ⟨v0, hv0, t0, rfl⟩ := paired_get hna 0 _ x0
  obtain ⟨v1, hv1, t1, rfl⟩ := paired_get hna 1 _ x1
  obtain ⟨v2, hv2, t2, rfl⟩ := paired_get hna 2 _ x2
  have ha := sg_le xs[0]
  have hb' := sg_le xs[1]
  refine r_seq (fun s' => ∃ gl ga, Paired VS [[sg xs[0]], [sg xs[1]]] ga.toList ∧ St fn NL s env [("numbers", .ref nl), ("signs", .ref gl)] [(gl, listObj ga 0), (nl, listObj na 0)] s') ?_ ?_
  · repeat walk_at "mm"
    refine r_itemlist (v := .int xs[0] t0) (by assumption) (.inr (.head _)) (by omega) (by omega) (by simpa using hv0) ?_
    repeat walk_at "mm"
    refine call_sign ((R.deeper env).less' (by decide)) (glb_of G (by assumption)) (bare_of (by assumption)) ?_
    intro ta s₃ e₃
    have I₃ := St.ext (by assumption) e₃ rfl
    repeat walk_at "mm"
    refine r_itemlist (v := .int xs[1] t1) (by assumption) (.inr (.head _)) (by omega) (by omega) (by simpa using hv1) ?_
    repeat walk_at "mm"
    refine call_sign ((R.deeper env).less' (by decide)) (glb_of G (by assumption)) (bare_of (by assumption)) ?_
    intro tb s₄ e₄
    have I₄ := St.ext (by assumption) e₄ rfl
    repeat walk_at "mm"
    refine r_newlist (by assumption) (by rw [sizeLine_val]; simp) ?_
    intro D s₅ hD I₅
    repeat walk_at "mm"
    exact ⟨rfl, D, _, .cons ⟨_, rfl⟩ (.cons ⟨_, rfl⟩ .nil), St.sub (by assumption) (by exact ⟨rfl, rfl, trivial⟩) (fun _ hq => hq)⟩
  rintro s₃ ⟨gl, ga, hga, I⟩
  generalize sg xs[0] = a at *
  generalize sg xs[1] = b at *
  have hal : ∀ n, ∀ c ∈ word [a, b] n, c ≤ 1114111 := by
    intro n c hc
    have := word_mem _ _ c hc
    simp only [List.mem_cons, List.not_mem_nil, or_false] at this
    rcases this with rfl | rfl <;> assumption
  refine r_seq (fun s' => ∃ y t, y.length ≤ 127 ∧ (∀ c ∈ y, c ≤ 1114111) ∧ St fn NL s env [("numbers", .ref nl), ("signs", .ref gl), ("needle", .str (mkS y) t)] [(gl, listObj ga 0), (nl, listObj na 0)] s') ?_ ?_
  · repeat walk_at "mm"
    refine r_itemlist (v := .int xs[2] t2) (by assumption) (.inr (.tail _ (.head _))) (by omega) (by omega) (by simpa using hv2) ?_
    repeat walk_at "mm"
    rename_i Jc
    refine call_word ((R.deeper env).less' (by decide)) (glb_of G (by assumption)) (bare_of (by assumption)) (n := (xs[2] % 127).toNat) (by omega) (by omega) (Jc.news _ (.head _)).1 hga ?_
    intro t s₅ e₅
    have I₅ := St.ext (by assumption) e₅ rfl
    repeat walk_at "mm"
    exact ⟨rfl, word [a, b] (xs[2] % 127).toNat, _, Nat.le_trans (word_len _ _) (by omega), hal _, St.sub (by assumption) (by exact ⟨rfl, rfl, rfl, trivial⟩) (fun _ hq => hq)⟩
  rintro s₄ ⟨y, ty, hyl, hyo, I⟩
  refine r_seq (fun s' => ∃ x t, x.length ≤ 10000 ∧ (∀ c ∈ x, c ≤ 1114111) ∧ St fn NL s env [("needle", .str (mkS y) ty), ("haystack", .str (mkS x) t)] [] s') ?_ ?_
  · repeat walk_at "mm"
    refine r_comp (by assumption) rfl rfl (fun _ => rfl) ?_
    refine r_slicelist (own := fn) (names := NL) (s₀ := s) ?_
    repeat walk_at "mm"
    refine ⟨nl, na, 0, _, _, _, _, rfl, by assumption, (.inr (.tail _ (.head _))), by rw [sizeLine_val]; omega, .int _ _, .none, ?_⟩
    intro D s₅ hD I₅
    rw [show slicePick na (some 3) none none = (na.toList.drop 3).toArray from slicePick_from' na 3] at I₅
    refine ⟨_, _, _, _, _, _, fun i v => ∃ x, (xs.drop 3)[i]? = some x ∧ VS (word [a, b] (x % 31).toNat) v, I₅, src_list rfl (Held.head.get I₅), by rw [sizeLine_val]; simp; omega, CompOn.plain ?_, ?_⟩
    · intro cenv i v s₆ hi' hv e₆ J
      obtain ⟨x, hx, t, rfl⟩ := paired_get' (paired_drop 3 hna) i v (by simpa using hv)
      have G₆ := (glb_of G I₅).keeps e₆.heap
      have hgl := e₆.heap _ _ (I₅.news _ (.tail _ (.head _))).1
      repeat walk_at "mm"
      rename_i Jc
      refine call_word ((R.deeper env).less' (by decide)) (glb_of G₆ (by assumption)) (bare_of (by assumption)) (n := (x % 31).toNat) (by omega) (by omega) (Jc.heap _ _ hgl) hga ?_
      intro t s₇ e₇
      exact ⟨⟨x, hx, t, rfl⟩, (St.toExt (by assumption)).trans e₇⟩
    · intro D' ys' k' s₆ hD' I₆ e₆ hF
      repeat walk_at "mm"
      have hsz : (((xs.drop 3).map fun x => word [a, b] (x % 31).toNat).map (·.length)).sum + ((xs.drop 3).map fun x => word [a, b] (x % 31).toNat).length * ([] : List Nat).length ≤ 10000 := by
        have h1 := sum_le_of (fun (l : List Nat) => l.length) 31 ((xs.drop 3).map fun x => word [a, b] (x % 31).toNat) (by intro q hq; obtain ⟨c, _, rfl⟩ := List.mem_map.mp hq; exact Nat.le_trans (word_len _ _) (by omega))
        have h2 : ((xs.drop 3).map fun x => word [a, b] (x % 31).toNat).length ≤ 64 := by simp; omega
        have h3 : ((xs.drop 3).map fun x => word [a, b] (x % 31).toNat).length * 31 ≤ 64 * 31 := Nat.mul_le_mul_right _ h2
        simp only [List.length_nil, Nat.mul_zero, Nat.add_zero]
        omega
      refine r_join (ls := (xs.drop 3).map fun x => word [a, b] (x % 31).toNat) (by assumption) Held.head ?_ (by omega) ?_
      · exact paired_map _ (paired_range0 hF (by simp [hns]) fun i a y e hy => by obtain ⟨x, hx, h⟩ := hy; rw [e] at hx; cases hx; exact h)
      · intro t s₇ I₇
        repeat walk_at "mm"
        refine ⟨rfl, _, _, Nat.le_trans (joinL_len _ _) hsz, ?_, St.sub (by assumption) (by exact ⟨rfl, rfl, trivial⟩) (by simp)⟩
        rw [joinL_nil]
        intro c hc
        obtain ⟨q, hq, hc⟩ := List.mem_flatten.mp hc
        obtain ⟨_, _, rfl⟩ := List.mem_map.mp hq
        exact hal _ c hc
  rintro s₅ ⟨x, tx, hxl, hxo, I⟩
  have hel := en_len y
  have hxel := en_len x
  refine r_seq (fun s' => ∃ t, St fn NL s env [("needle", .str (mkS y) ty), ("haystack", .str (mkS x) tx), ("sought", .bytes (mkB (en y)) t)] [] s') ?_ ?_
  · repeat walk_at "mm"
    refine call_octets ((R.deeper env).less' (by decide)) (glb_of G (by assumption)) (bare_of (by assumption)) hyo (by omega) ?_
    intro t s₆ e₆
    have I₆ := St.ext (by assumption) e₆ rfl
    repeat walk_at "mm"
    exact ⟨rfl, _, St.sub (by assumption) (by exact ⟨rfl, rfl, rfl, trivial⟩) (fun _ hq => hq)⟩
  rintro s₆ ⟨tz, I⟩
  refine r_seq (fun s' => ∃ pl, St fn NL s env [("needle", .str (mkS y) ty), ("haystack", .str (mkS x) tx), ("sought", .bytes (mkB (en y)) tz), ("places", .ref pl)] [(pl, listObj #[] 0)] s') ?_ ?_
  · repeat walk_at "mm"
    refine r_newlist (by assumption) (by rw [sizeLine_val]; simp) ?_
    intro D _ hD _
    repeat walk_at "mm"
    exact ⟨rfl, D, St.sub (by assumption) (by exact ⟨rfl, rfl, rfl, rfl, trivial⟩) (fun _ hq => hq)⟩
  rintro s₇ ⟨pl, I⟩
  refine r_seq (fun s' => ∃ sl, pl ≠ sl ∧ St fn NL s env [("needle", .str (mkS y) ty), ("haystack", .str (mkS x) tx), ("sought", .bytes (mkB (en y)) tz), ("places", .ref pl), ("starts", .ref sl)] [(sl, listObj #[] 0), (pl, listObj #[] 0)] s') ?_ ?_
  · repeat walk_at "mm"
    refine r_newlist (by assumption) (by rw [sizeLine_val]; simp) ?_
    intro D _ hD _
    repeat walk_at "mm"
    exact ⟨rfl, D, hD _ (.head _), St.sub (by assumption) (by exact ⟨rfl, rfl, rfl, rfl, rfl, trivial⟩) (fun _ hq => hq)⟩
  rintro s₈ ⟨sl, hps, I⟩
  have hpk := picks_le x y
  refine r_seq (fun s' => ∃ pa kp sa ks, Paired VI (toI (picks x y)) pa.toList ∧ Paired VI (toI ((picks x y).map (bb x))) sa.toList ∧ St fn NL s env [("needle", .str (mkS y) ty), ("haystack", .str (mkS x) tx), ("sought", .bytes (mkB (en y)) tz), ("places", .ref pl), ("starts", .ref sl)] [(sl, listObj sa ks), (pl, listObj pa kp)] s') ?_ ?_
  · repeat walk_at "mm"
    by_cases hy0 : y = []
    · rw [if_neg (by simp [hy0])]
      repeat walk_at "mm"
      have e : picks x y = [] := by unfold picks; rw [if_pos hy0]
      rw [e]
      exact ⟨rfl, #[], 0, #[], 0, .nil, .nil, St.sub (by assumption) (by exact ⟨rfl, rfl, rfl, rfl, rfl, trivial⟩) (fun _ hq => hq)⟩
    rw [if_pos (by simp [hy0])]
    repeat walk_at "mm"
    rename_i Jp
    refine r_for2 (names := NL) (s₀ := s) rfl (fun _ => rfl) ?_
    refine r_slicetmp (own := fn) (names := NL) (s₀ := s) ?_
    repeat walk_at "mm"
    refine r_split hy0 (by rw [sizeLine_val]; omega) (by assumption) ?_
    intro D ys s₉ hD hys I₉
    have hysz : (picks x y).length + 1 = ys.size := by have := hys.length; rw [parts_len] at this; simpa using this
    repeat walk_at "mm"
    refine ⟨D, ys, 0, _, _, _, _, rfl, by assumption, Held.head, by rw [sizeLine_val]; omega, .none, .int _ _, ?_⟩
    intro D' s₁₀ hD' I₁₀
    rw [slicePick_init] at I₁₀
    have hpieces := paired_init hys
    have hn0 : (ys.toList.dropLast.toArray).size = (picks x y).length := by simp; omega
    have pD : pl ≠ D' := hD' _ (.tail _ (.tail _ (.head _)))
    have sD : sl ≠ D' := hD' _ (.tail _ (.head _))
    refine ⟨P6, fun i p => [("needle", .str (mkS y) ty), ("haystack", .str (mkS x) tx), ("sought", .bytes (mkB (en y)) tz), ("places", .ref pl), ("starts", .ref sl), ("place", .int (back y.length (picks x y) i : Nat) p.tp), ("start", .int (bb x (back y.length (picks x y) i) : Nat) p.ts)],
      fun i p => [(sl, listObj p.sa p.ks), (pl, listObj p.pa p.kp), (D', listObj (ys.toList.dropLast.toArray) 0)],
      fun i p => Paired VI (toI ((picks x y).take i)) p.pa.toList ∧ Paired VI (toI (((picks x y).take i).map (bb x))) p.sa.toList,
      (ys.toList.dropLast.toArray).size, _, _, ⟨#[], 0, #[], 0, _, _⟩, ?_, src_list rfl (Held.head.get I₁₀), St.sub I₁₀ (by exact ⟨rfl, rfl, rfl, rfl, rfl, rfl, rfl, trivial⟩) ?_, ⟨.nil, .nil⟩, ?_, ?_, ?_⟩
    · intro i p _ q hq
      simp only [List.mem_cons, List.not_mem_nil, or_false] at hq
      rcases hq with rfl | rfl | rfl <;> rfl
    · intro q hq
      simp only [List.mem_cons, List.not_mem_nil, or_false] at hq ⊢
      rcases hq with h | h | h <;> simp [h]
    · intro d hd i p s' _ J
      simp only [List.mem_cons, List.not_mem_nil, or_false] at hd
      rw [hd]
      exact (J.news _ (.tail _ (.tail _ (.head _)))).1
    · rintro i v ⟨pa, kp, sa, ks, tp, ts⟩ io s₁₁ hi' hv ⟨hp1, hp2⟩ hio J
      simp only at hp1 hp2
      have hil : i < (picks x y).length := by omega
      have hc := List.getElem?_eq_getElem hil
      generalize (picks x y)[i] = c at hc
      obtain ⟨hbc, hcx⟩ := back_le hc
      obtain ⟨pc, hpc, tpc, rfl⟩ := paired_get' hpieces i v (by simpa using hv)
      have hpg := parts_get x y.length (picks x y) 0 i c hc
      have hpe : pc = (x.drop (back y.length (picks x y) i)).take (c - back y.length (picks x y) i) := by
        rw [List.getElem?_dropLast, parts_len, if_pos (by omega), hpg] at hpc
        exact (Option.some.inj hpc).symm
      have hpl : pc.length = c - back y.length (picks x y) i := by
        rw [hpe, List.length_take, List.length_drop]; omega
      have hpo : ∀ q ∈ pc, q ≤ 1114111 := fun q hq => hxo q (by rw [hpe] at hq; exact List.mem_of_mem_drop (List.mem_of_mem_take hq))
      have hbp : bb x c = bb x (back y.length (picks x y) i) + (en pc).length := by rw [hpe]; exact bb_piece hbc
      have hocc : occ x y c = true := picks_occ (List.mem_of_getElem? hc)
      have hnext : back y.length (picks x y) (i + 1) = c + y.length := by
        unfold back
        rw [if_neg (by omega), Nat.add_sub_cancel, List.getD_eq_getElem?_getD, hc]; rfl
      have hbn : bb x (c + y.length) = bb x c + (en y).length := bb_needle hocc
      have htk : (picks x y).take (i + 1) = (picks x y).take i ++ [c] := by rw [List.take_add_one, hc]; rfl
      have hps1 : pa.size ≤ 10000 := by have := hp1.length; simp at this; omega
      have hss1 : sa.size ≤ 10000 := by have := hp2.length; simp at this; omega
      have hel2 := en_len pc
      have hbb : bb x c ≤ 40000 := by
        have h1 := bb_le (x := x) hcx (Nat.le_refl _)
        rw [bb_all] at h1
        omega
      have ioS : io.1 ≠ sl := io_ne' J hio (.head _)
      have ioP : io.1 ≠ pl := io_ne' J hio (.tail _ (.head _))
      have hp1' : ∀ t, Paired VI (toI ((picks x y).take (i + 1))) (pa.push (.int (c : Int) t)).toList := fun t => by
        rw [htk, toI, List.map_append, Array.toList_push]; exact paired_append hp1 (.cons ⟨_, rfl⟩ .nil)
      have hp2' : ∀ t, Paired VI (toI (((picks x y).take (i + 1)).map (bb x))) (sa.push (.int ((bb x c : Nat) : Int) t)).toList := fun t => by
        rw [htk, List.map_append, toI, List.map_append, Array.toList_push]; exact paired_append hp2 (.cons ⟨_, rfl⟩ .nil)
      replace J := St.sub J (vars' := [("piece", .str (mkS pc) tpc), ("needle", .str (mkS y) ty), ("haystack", .str (mkS x) tx), ("sought", .bytes (mkB (en y)) tz), ("places", .ref pl), ("starts", .ref sl), ("place", .int (back y.length (picks x y) i : Nat) tp), ("start", .int (bb x (back y.length (picks x y) i) : Nat) ts)]) (nw' := [io, (sl, listObj sa ks), (pl, listObj pa kp), (D', listObj (ys.toList.dropLast.toArray) 0)]) (by exact ⟨rfl, rfl, rfl, rfl, rfl, rfl, rfl, rfl, trivial⟩) (fun _ hq => hq)
      generalize hB : back y.length (picks x y) i = B at *
      refine r_seq (fun s' => ∃ tc k, St fn NL s env [("piece", .str (mkS pc) tpc), ("needle", .str (mkS y) ty), ("haystack", .str (mkS x) tx), ("sought", .bytes (mkB (en y)) tz), ("places", .ref pl), ("starts", .ref sl), ("start", .int (bb x B : Nat) ts)] [(pl, listObj (pa.push (.int (c : Int) tc)) k), io, (sl, listObj sa ks), (D', listObj (ys.toList.dropLast.toArray) 0)] s') ?_ ?_
      · repeat walk_at "mm"
        refine r_expr (St.eo (by assumption)) ?_
        repeat walk_at "mm"
        refine r_getappend (by assumption) (.inr (.tail _ (.tail _ (.head _)))) ?_
        repeat walk_at "mm"
        refine r_lenstr (by assumption) (by rw [sizeLine_val]; omega) ?_
        intro _ _ _
        repeat walk_at "mm"
        refine r_append (ys := pa) (k := kp) (nw₁ := [io, (sl, listObj sa ks), (D', listObj (ys.toList.dropLast.toArray) 0)]) (by assumption) (.tail _ (.tail _ (.head _))) ?_ ?_ (by rw [sizeLine_val]; omega) ?_
        · intro q hq
          simp only [List.mem_cons, List.not_mem_nil, or_false] at hq ⊢
          rcases hq with h | h | h <;> simp [h]
        · intro q hq
          simp only [List.mem_cons, List.not_mem_nil, or_false] at hq
          rcases hq with rfl | rfl | rfl
          · exact ioP
          · exact Ne.symm hps
          · exact Ne.symm pD
        intro k₁ s₁₂ J₁₂
        rw [show (B : Int) + (pc.length : Int) = (c : Int) by omega] at J₁₂
        exact ⟨rfl, rfl, _, k₁, St.sub J₁₂ (by exact ⟨rfl, rfl, rfl, rfl, rfl, rfl, rfl, trivial⟩) (fun _ hq => hq)⟩
      rintro s₁₂ ⟨tc, k₁, J⟩
      refine r_seq (fun s' => ∃ td k, St fn NL s env [("needle", .str (mkS y) ty), ("haystack", .str (mkS x) tx), ("sought", .bytes (mkB (en y)) tz), ("places", .ref pl), ("starts", .ref sl)] [(sl, listObj (sa.push (.int ((bb x c : Nat) : Int) td)) k), (pl, listObj (pa.push (.int (c : Int) tc)) k₁), io, (D', listObj (ys.toList.dropLast.toArray) 0)] s') ?_ ?_
      · repeat walk_at "mm"
        refine r_expr (St.eo (by assumption)) ?_
        repeat walk_at "mm"
        refine r_getappend (by assumption) (.inr (.tail _ (.tail _ (.head _)))) ?_
        repeat walk_at "mm"
        refine call_octets ((R.deeper env).less' (by decide)) (glb_of G (by assumption)) (bare_of (by assumption)) hpo (by omega) ?_
        intro to s₁₃ e₁₃
        have J₁₃ := St.ext (by assumption) e₁₃ rfl
        repeat walk_at "mm"
        refine r_lenbytes (by assumption) (by rw [sizeLine_val]; omega) ?_
        intro _ _ _
        repeat walk_at "mm"
        refine r_append (ys := sa) (k := ks) (nw₁ := [(pl, listObj (pa.push (.int (c : Int) tc)) k₁), io, (D', listObj (ys.toList.dropLast.toArray) 0)]) (by assumption) (.tail _ (.tail _ (.head _))) ?_ ?_ (by rw [sizeLine_val]; omega) ?_
        · intro q hq
          simp only [List.mem_cons, List.not_mem_nil, or_false] at hq ⊢
          rcases hq with h | h | h <;> simp [h]
        · intro q hq
          simp only [List.mem_cons, List.not_mem_nil, or_false] at hq
          rcases hq with rfl | rfl | rfl
          · exact hps
          · exact ioS
          · exact Ne.symm sD
        intro k₂ s₁₄ J₁₄
        rw [show ((bb x B : Nat) : Int) + ((en pc).length : Int) = ((bb x c : Nat) : Int) by omega] at J₁₄
        exact ⟨rfl, rfl, _, k₂, St.sub J₁₄ (by exact ⟨rfl, rfl, rfl, rfl, rfl, trivial⟩) (fun _ hq => hq)⟩
      rintro s₁₃ ⟨td, k₂, J⟩
      refine r_seq (fun s' => ∃ tp', St fn NL s env [("needle", .str (mkS y) ty), ("haystack", .str (mkS x) tx), ("sought", .bytes (mkB (en y)) tz), ("places", .ref pl), ("starts", .ref sl), ("place", .int (c + y.length : Nat) tp')] [(sl, listObj (sa.push (.int ((bb x c : Nat) : Int) td)) k₂), (pl, listObj (pa.push (.int (c : Int) tc)) k₁), io, (D', listObj (ys.toList.dropLast.toArray) 0)] s') ?_ ?_
      · repeat walk_at "mm"
        refine r_itemlist_neg (v := .int (c : Int) tc) (by assumption) (.inr (.tail _ (.head _))) (by omega) (by rw [Array.size_push]; omega) (by rw [sizeLine_val, Array.size_push]; omega) (by rw [Array.size_push, show ((-1 : Int) + ((pa.size + 1 : Nat) : Int)).toNat = pa.size by omega]; simp) ?_
        repeat walk_at "mm"
        refine r_lenstr (by assumption) (by rw [sizeLine_val]; omega) ?_
        intro _ _ _
        repeat walk_at "mm"
        exact ⟨rfl, _, St.sub (by assumption) (by exact ⟨rfl, rfl, rfl, rfl, rfl, rfl, trivial⟩) (fun _ hq => hq)⟩
      rintro s₁₄ ⟨tp', J⟩
      refine r_seq (fun s' => ∃ ts', St fn NL s env [("needle", .str (mkS y) ty), ("haystack", .str (mkS x) tx), ("sought", .bytes (mkB (en y)) tz), ("places", .ref pl), ("starts", .ref sl), ("place", .int (c + y.length : Nat) tp'), ("start", .int (bb x c + (en y).length : Nat) ts')] [(sl, listObj (sa.push (.int ((bb x c : Nat) : Int) td)) k₂), (pl, listObj (pa.push (.int (c : Int) tc)) k₁), io, (D', listObj (ys.toList.dropLast.toArray) 0)] s') ?_ ?_
      · repeat walk_at "mm"
        refine r_itemlist_neg (v := .int ((bb x c : Nat) : Int) td) (by assumption) (.inr (.head _)) (by omega) (by rw [Array.size_push]; omega) (by rw [sizeLine_val, Array.size_push]; omega) (by rw [Array.size_push, show ((-1 : Int) + ((sa.size + 1 : Nat) : Int)).toNat = sa.size by omega]; simp) ?_
        repeat walk_at "mm"
        refine r_lenbytes (by assumption) (by rw [sizeLine_val]; omega) ?_
        intro te s₁₅ J₁₅
        repeat walk_at "mm"
        exact ⟨rfl, _, St.sub (by assumption) (by exact ⟨rfl, rfl, rfl, rfl, rfl, rfl, rfl, trivial⟩) (fun _ hq => hq)⟩
      rintro s₁₅ ⟨ts', J⟩
      repeat walk_at "mm"
      refine ⟨⟨pa.push (.int (c : Int) tc), k₁, sa.push (.int ((bb x c : Nat) : Int) td), k₂, tp', ts'⟩, ⟨hp1' tc, hp2' td⟩, ?_⟩
      simp only
      rw [hnext, hbn]
      exact St.sub J (by exact ⟨rfl, rfl, rfl, rfl, rfl, rfl, rfl, trivial⟩) (fun q hq => by
        simp only [List.mem_cons, List.not_mem_nil, or_false] at hq ⊢
        rcases hq with h | h | h | h <;> simp [h])
    · rintro ⟨pa, kp, sa, ks, tp, ts⟩ s₁₁ ⟨hp1, hp2⟩ J
      simp only at hp1 hp2
      rw [hn0, List.take_length] at hp1 hp2
      repeat walk_at "mm"
      exact ⟨rfl, pa, kp, sa, ks, hp1, hp2, J.sub (by exact ⟨rfl, rfl, rfl, rfl, rfl, trivial⟩) (fun q hq => by simp only [List.mem_cons, List.not_mem_nil, or_false] at hq ⊢; rcases hq with h | h <;> simp [h])⟩
  rintro s₉ ⟨pa, kp, sa, ks, hpa, hsa, I⟩
  refine r_seq (fun s' => St fn NL s env [("needle", .str (mkS y) ty), ("haystack", .str (mkS x) tx), ("sought", .bytes (mkB (en y)) tz), ("places", .ref pl), ("starts", .ref sl)] [(sl, listObj sa ks), (pl, listObj pa kp)] s') ?_ ?_
  · repeat walk_at "mm"
    refine call_findall ((R.deeper env).less' (by decide)) (glb_of G (by assumption)) (bare_of (by assumption)) (by omega) (by omega) ?_
    intro q s₁₀ e₁₀ hL
    repeat walk_at "mm"
    refine hL _ _ ?_
    intro S acc k' s₁₁ e₁₁ hS hS' hacc
    have I₁₁ := I.ext e₁₁
    have I₁₂ := I.more I₁₁ hS' hS
    repeat walk_at "mm"
    refine r_neints (R.deeper env).line I₁₂ Held.head (.inr (.tail _ (.tail _ (.head _)))) (paired_of_items hacc) hpa ?_
    rw [decide_eq_true rfl]
    repeat walk_at "mm"
    exact ⟨rfl, St.sub (by assumption) (by exact ⟨rfl, rfl, rfl, rfl, rfl, trivial⟩) (fun q hq => .tail _ hq)⟩
  rintro s₁₀ I
  repeat walk_at "mm"
  refine call_octets ((R.deeper env).less' (by decide)) (glb_of G (by assumption)) (bare_of (by assumption)) hxo (by omega) ?_
  intro t s₁₁ e₁₁
  have I₁₁ := St.ext (by assumption) e₁₁ rfl
  repeat walk_at "mm"
  refine call_bfindall ((R.deeper env).less' (by decide)) (glb_of G (by assumption)) (bare_of (by assumption)) (en_oct hxo) (en_oct hyo) (by omega) (by omega) ?_
  intro q s₁₂ e₁₂ hL
  repeat walk_at "mm"
  refine hL _ _ ?_
  intro S acc k' s₁₃ e₁₃ hS hS' hacc
  have I₁₃ := I₁₁.ext e₁₃
  have I₁₄ := I₁₁.more I₁₃ hS' hS
  repeat walk_at "mm"
  refine r_eqints (R.deeper env).line I₁₄ Held.head (.inr (.tail _ (.head _))) (paired_of_items hacc) hsa ?_
  have e : picks (en x) (en y) = (picks x y).map (bb x) := by
    by_cases hy0 : y = []
    · subst hy0; rfl
    · exact picks_en hy0
  rw [e, decide_eq_true rfl]
  exact ⟨rfl, St.toExt I₁₄⟩
end Mine

set_option maxRecDepth 100000 in
set_option maxHeartbeats 8000000 in
theorem PySem.Challenge.cw_dm0001_06_holds : PySem.Challenge.rw_dm0001_06.Holds :=
  Mine.hd06 (by
  intro w s₀ s₁ mg mb G Y fa o pm cd doc dV kV ho hd hcd hD hmg hg args vals as hpre hlay hrd hwl hlo
  have KX := kIn_of Y
  refine Ground.open G ?_
  intro T B D TE TW
  wrow_args hpre hlay hrd hwl hlo
  clear hd hD Y G hcd ho
  have hfa : some (Value.ref fa) = some (.ref 47) := hmg.symm.trans (mg_of KX T.g rfl)
  cases hfa
  refine wpAny_mono (Mine.law06 ⟨KX, ⟨_, T.g⟩, ⟨_, T.b, T.builtins⟩, T.nolimit⟩ (Mine.bare_nil hg) (Mine.list_of rfl (by assumption) (by assumption)) (Mine.paired_ints (by assumption)) (by omega)) ?_ ?_
  · rintro v s' ⟨rfl, e⟩
    exact Mine.law_good _ e (Mine.bare_nil hg)
  · intro _ _ h
    exact h.elim)
