import PyProof.Rows.All
import Wide.All
import OpenK.AllK
import Wide.FinOn
import Flt.RightMore
import Lean
import PySem.Challenge.RW_pg0052_01
set_option Elab.async false
set_option compiler.extract_closed false
/-! part Top1 -/
section
open PySem PySem.W PyProof.Rows
namespace Mine
set_option maxRecDepth 100000 in
set_option maxHeartbeats 8000000 in
open_top hd for PySem.Challenge.rw_pg0052_01
end Mine
end
/-! part Base -/
section
open PySem PySem.W PyProof.Rows PySem.Calls
namespace Mine
noncomputable abbrev Pg : Program := PySem.Challenge.rw_pg0052_01.row.prog
noncomputable abbrev KK (w : World) : Frag := hd.heap_39 w.params
noncomputable abbrev LS : List Str := looseW hd.view_39 [Str.ofString "ONE_THIRD", Str.ofString "ONE_SIXTH", Str.ofString "TWO_THIRD"]

/-- a def that changes no object that stood before: what it asks of the heap, what it gives -/
abbrev Contract (w : World) (mean : ExcName → Option Value) (mg mb : Str → Option Value) (f : Addr) (lv : Nat) (vs : List Value) (Pre : Heap → Prop) (Out : Heap → Heap → Value → Prop) : Prop :=
  ∀ (dp un : Nat) (gd : Option (List Code)) (cn : Str) (cs : Scope) (a : Addr) (ccd : Value) (cl : List (Str × Addr)) (outer : List Env) (A₀ : Around) (base h₀ : Heap) (L : Addr) (m : Str → Option Value) (s : Shared) (Q E : Value → Shared → Prop),
    Below A₀ base outer h₀ → Fr h₀ L s.heap m → (KK w).In h₀ → Top hd.view_39 LS mean mg mb h₀ → cs.kind = .function →
    dp + lv < recursionLimit → un + 8 * lv < cLine → Pre s.heap →
    (∀ (v : Value) (h' : Heap) (tk' : Nat), Out s.heap h' v → (∀ b o, s.heap.get? b = some o → h'.get? b = some o) → Q v { s with heap := h', toks := tk' }) →
    wpAny (model Pg w) (ktrTop dp un gd cn cs L a ccd cl outer) (call (.ref f) vs) Q E s

theorem use {w : World} {mean : ExcName → Option Value} {mg mb : Str → Option Value} {f : Addr} {lv : Nat} {vs : List Value} {Pre : Heap → Prop} {Out : Heap → Heap → Value → Prop}
    (C : Contract w mean mg mb f lv vs Pre Out)
    {dp un : Nat} {gd : Option (List Code)} {cn : Str} {cs : Scope} {a : Addr} {ccd : Value} {cl : List (Str × Addr)} {outer : List Env} {A₀ : Around} {base h₀ : Heap} {L : Addr} {m : Str → Option Value} {s : Shared} {Q E : Value → Shared → Prop} {news : List (Addr × Obj)}
    (B : Below A₀ base outer h₀) (F : Fr h₀ L s.heap m) (X : Frag.In (hd.heap_39 w.params) h₀) (N : News h₀ L s.heap news) (T : Top hd.view_39 (looseW hd.view_39 [Str.ofString "ONE_THIRD", Str.ofString "ONE_SIXTH", Str.ofString "TWO_THIRD"]) mean mg mb h₀) (hk : cs.kind = .function)
    (hdp : dp + lv < recursionLimit) (hu : un + 8 * lv < cLine) (pre : Pre s.heap)
    (ret : ∀ (v : Value) (h' : Heap) (tk' : Nat), Out s.heap h' v → Fr h₀ L s.heap m → News h₀ L s.heap news → Fr h₀ L h' m → News h₀ L h' news → (∀ b o, s.heap.get? b = some o → h'.get? b = some o) → Q v { s with heap := h', toks := tk' }) :
    wpAny (model PySem.Challenge.rw_pg0052_01.row.prog w) (ktrTop dp un gd cn cs L a ccd cl outer) (call (.ref f) vs) Q E s :=
  C dp un gd cn cs a ccd cl outer A₀ base h₀ L m s Q E B F X T hk hdp hu pre fun v h' tk' o kp => ret v h' tk' o F N (F.grownK kp) (N.grown kp) kp

/-- a new object joins the ledger -/
theorem newsMore {h₀ h h' : Heap} {L D : Addr} {m : Str → Option Value} {news : List (Addr × Obj)} {o : Obj} (F : Fr h₀ L h m) (N' : News h₀ L h' news) (hD : h.get? D = none) (hD' : h'.get? D = some o) : News h₀ L h' ((D, o) :: news) := by
  intro p hp
  rcases List.mem_cons.mp hp with rfl | hp
  · refine ⟨hD', fun e => ?_, ?_⟩
    · obtain ⟨oL, _, _, hL, _⟩ := F.ns
      have e' : D = L := e
      rw [e', hL] at hD; cases hD
    · cases q : h₀.get? D with
      | none => rfl
      | some x => rw [F.keep _ _ q] at hD; cases hD
  · exact N' p hp
theorem newsNe {h₀ h : Heap} {L D : Addr} {news : List (Addr × Obj)} (N : News h₀ L h news) (hD : h.get? D = none) : ∀ p ∈ news, p.1 ≠ D := fun p hp e => by
  have := (N p hp).1; rw [e, hD] at this; cases this
def AllNe (d : Nat) : List (Addr × Obj) → Prop
  | [] => True
  | p :: r => @Ne Nat p.1 d ∧ AllNe d r
theorem allNe_of {d : Addr} : ∀ {l : List (Addr × Obj)}, (∀ p ∈ l, p.1 ≠ d) → AllNe d l
  | [], _ => trivial
  | p :: _, h => ⟨h p (.head _), allNe_of fun q hq => h q (.tail _ hq)⟩

section
variable {prog : Program} {w : World} {A A₀ : Around} {E : Value → Shared → Prop} {s : Shared} {K : Frag} {C L : Addr} {h₀ base : Heap} {m mg mb : Str → Option Value} {p : Program} {loose : List Str} {mean : ExcName → Option Value} {Q : Value → Shared → Prop}
theorem enterP {env : Env} {outer : List Env} {name qual : Str} {params : Arguments} {body : List Stmt} {scope : Scope} {dV kV doc pm cdv ct oc : Value} {an od : Option Addr} {osl : Array (Option Value)} {f : Addr} {pos : List Value} {kw : List (Str × Value)} {binds : List (Str × Value)}
    (B : Below A₀ base outer h₀) (F : Fr h₀ L s.heap m) (X₀ : K.In h₀) (T : Top p loose mean mg mb h₀) (hA : A.frames = some (env :: outer)) (hf : env.frame = some L) (hke : env.scope.kind = .function)
    (ho : K.lookup f = some ⟨oc, od, .func (fnOf name qual params body scope dV kV doc pm an cdv ct), osl⟩) (hcd : codeIn K cdv qual = true) (hroom : A.depth < recursionLimit)
    (hbind : BindsTo s (fnOf name qual params body scope dV kV doc pm an cdv ct) ⟨pos, kw⟩ binds) (hloc : ∀ y ∈ binds, scope.names.lookup y.1 = some .local)
    (h : ∀ g L' h₁, g = s.heap → Fr g L' h₁ (fun y => binds.reverse.lookup y) → News g L' h₁ [] → Below A base (env :: outer) g → K.In g → Top p loose mean mg mb g →
      wpAny (model prog w) (A.deeper (envOf qual scope L' f cdv)) (execs body (envOf qual scope L' f cdv))
        (fun fl s' => Q (match fl with | .ret v => v | _ => .none) s')
        (fun e s' => wpAny (model prog w) (A.deeper (envOf qual scope L' f cdv)) (leaving (envOf qual scope L' f cdv) e) (fun _ s'' => E e s'') (fun e' s'' => E e' s'') s')
        { s with heap := h₁, toks := s.toks + binds.length })
    (hco : scope.isCoroutine = false) (hgen : scope.isGenerator = false) (hk : scope.kind = .function)
    (hcell : ∀ x ∈ scope.names, x.2 ≠ .cell) : wpAny (model prog w) A (call (.ref f) pos kw) Q E s := by
  have N : News h₀ L s.heap [] := News.nil
  obtain ⟨FG, BG, st, lv⟩ := groundX (R := fun r s' => match r with | .ok (.ret v) => Q v s' | .ok _ => False | .error e => E e s') B F N hA hf hke
  refine wpAny_call (codeAny_call_def (fd := fnOf name qual params body scope dV kV doc pm an cdv ct) (body := body) (binds := binds) hroom ((X₀.keeps F.keep) _ _ ho) rfl (T.nolimit.keeps F.keep) (codeRec_of (X₀.keeps F.keep) hcd) rfl hbind hcell hloc (fun h₁ hns hk₁ => ?_) hco hgen hk)
  exact wpAny_mono (h _ s.heap.objs.size h₁ rfl ⟨hns, fun b o e => hk₁ b o e, Nat.le_refl _⟩ News.nil BG (X₀.keeps F.keep) (T.keeps F.keep)) (fun fl s' hl => hl) fun _ _ y => y

theorem enterC {env : Env} {outer : List Env} {name qual : Str} {params : Arguments} {body : List Stmt} {scope : Scope} {dV kV doc pm cdv ct oc : Value} {an od : Option Addr} {osl : Array (Option Value)} {f : Addr} {pos : List Value} {kw : List (Str × Value)} {binds : List (Str × Value)}
    (B : Below A₀ base outer h₀) (F : Fr h₀ L s.heap m) (X₀ : K.In h₀) (T : Top p loose mean mg mb h₀) (hA : A.frames = some (env :: outer)) (hf : env.frame = some L) (hke : env.scope.kind = .function)
    (ho : K.lookup f = some ⟨oc, od, .func (fnOf name qual params body scope dV kV doc pm an cdv ct), osl⟩) (hcd : codeIn K cdv qual = true) (hroom : A.depth < recursionLimit)
    (hbind : BindsTo s (fnOf name qual params body scope dV kV doc pm an cdv ct) ⟨pos, kw⟩ binds) (hkind : (binds.all fun y => scope.names.lookup y.1 == some .local || scope.names.lookup y.1 == some .cell) = true)
    (hnd : ((cellsFrom 0 scope.names []).map (·.1)).Nodup)
    (h : ∀ g L' h₁ tk cells, g = s.heap → Fr g L' h₁ (bindL (envOfC qual scope L' f cdv).kindOf binds fun _ => none) → News g L' h₁ cells →
      CellsAre (bindC (envOfC qual scope L' f cdv).kindOf binds fun _ => none) (cellsFrom (L' + 1) scope.names []) cells → Below A base (env :: outer) g → K.In g → Top p loose mean mg mb g →
      wpAny (model prog w) (A.deeper (envOfC qual scope L' f cdv)) (execs body (envOfC qual scope L' f cdv))
        (fun fl s' => Q (match fl with | .ret v => v | _ => .none) s')
        (fun e s' => wpAny (model prog w) (A.deeper (envOfC qual scope L' f cdv)) (leaving (envOfC qual scope L' f cdv) e) (fun _ s'' => E e s'') (fun e' s'' => E e' s'') s')
        { s with heap := h₁, toks := tk })
    (hco : scope.isCoroutine = false) (hgen : scope.isGenerator = false) (hk : scope.kind = .function) : wpAny (model prog w) A (call (.ref f) pos kw) Q E s := by
  have N : News h₀ L s.heap [] := News.nil
  obtain ⟨FG, BG, st, lv⟩ := groundX (R := fun r s' => match r with | .ok (.ret v) => Q v s' | .ok _ => False | .error e => E e s') B F N hA hf hke
  refine wpAny_call (codeAny_call_function hroom ((X₀.keeps F.keep) _ _ ho) rfl hco hgen rfl (codeRec_of (X₀.keeps F.keep) hcd) (hbind _ _ _ _ ?_))
  refine wpAny_newFunctionEnv_cells hk (kindsX hkind _) fun env' he s' x => ?_
  subst he
  refine ⟨(T.nolimit.keeps F.keep).keeps x.toInCall.keep, codeAny_func ?_⟩
  obtain ⟨h₁, tk, rfl, _⟩ := x.done
  have hk₁ := x.toInCall.keep
  obtain ⟨cells, NC, Y⟩ := Cl.news (h₀ := s.heap) (Nat.le_refl _) fun n c hm => ⟨x.cell n c (lookup_of_mem_nodup (cellsFrom_names scope.names 0 (s.heap.objs.size + 1) [] [] rfl ▸ hnd) hm), x.above n c hm⟩
  exact wpAny_mono (h _ s.heap.objs.size h₁ tk cells rfl ⟨x.toInCall.ns, fun b o e => hk₁ b o e, Nat.le_refl _⟩ NC Y BG (X₀.keeps F.keep) (T.keeps F.keep)) (fun fl s' hl => hl) fun _ _ y => y
end

/-! with the small steps done by themselves -/
section
variable {prog : Program} {w : World} {A A₀ : Around} {E : Value → Shared → Prop} {s : Shared} {K : Frag} {C L : Addr} {h₀ base : Heap} {m mg mb : Str → Option Value} {p : Program} {loose : List Str} {mean : ExcName → Option Value} {Q : Value → Shared → Prop}
theorem enterPA {env : Env} {outer : List Env} {name qual : Str} {params : Arguments} {body : List Stmt} {scope : Scope} {dV kV doc pm cdv ct oc : Value} {an od : Option Addr} {osl : Array (Option Value)} {f : Addr} {pos : List Value} {kw : List (Str × Value)} {binds : List (Str × Value)}
    (h : ∀ g L' h₁, g = s.heap → Fr g L' h₁ (fun y => binds.reverse.lookup y) → News g L' h₁ [] → Below A base (env :: outer) g → K.In g → Top p loose mean mg mb g →
      wpAny (model prog w) (A.deeper (envOf qual scope L' f cdv)) (execs body (envOf qual scope L' f cdv))
        (fun fl s' => Q (match fl with | .ret v => v | _ => .none) s')
        (fun e s' => wpAny (model prog w) (A.deeper (envOf qual scope L' f cdv)) (leaving (envOf qual scope L' f cdv) e) (fun _ s'' => E e s'') (fun e' s'' => E e' s'') s')
        { s with heap := h₁, toks := s.toks + binds.length })
    (hA : A.frames = some (env :: outer) := by exact rfl)
    (hf : env.frame = some L := by exact rfl)
    (hke : env.scope.kind = .function := by assumption)
    (B : Below A₀ base outer h₀ := by k_asm)
    (F : Fr h₀ L s.heap m := by k_asm)
    (X₀ : K.In h₀ := by k_asm)
    (T : Top p loose mean mg mb h₀ := by k_asm)
    (ho : K.lookup f = some ⟨oc, od, .func (fnOf name qual params body scope dV kV doc pm an cdv ct), osl⟩ := by k_is)
    (hcd : codeIn K cdv qual = true := by k_is)
    (hroom : A.depth < recursionLimit := by ktr_room)
    (hbind : BindsTo s (fnOf name qual params body scope dV kV doc pm an cdv ct) ⟨pos, kw⟩ binds := by exact BindsTo.of_eq rfl)
    (hcell : ∀ x ∈ scope.names, x.2 ≠ .cell := by decide)
    (hloc : ∀ y ∈ binds, scope.names.lookup y.1 = some .local := by exact locs rfl)
    (hco : scope.isCoroutine = false := by exact rfl)
    (hgen : scope.isGenerator = false := by exact rfl)
    (hk : scope.kind = .function := by exact rfl) : wpAny (model prog w) A (call (.ref f) pos kw) Q E s :=
  enterP (h := h) (hA := hA) (hf := hf) (hke := hke) (B := B) (F := F) (X₀ := X₀) (T := T) (ho := ho) (hcd := hcd) (hroom := hroom) (hbind := hbind) (hcell := hcell) (hloc := hloc) (hco := hco) (hgen := hgen) (hk := hk)
theorem enterCA {env : Env} {outer : List Env} {name qual : Str} {params : Arguments} {body : List Stmt} {scope : Scope} {dV kV doc pm cdv ct oc : Value} {an od : Option Addr} {osl : Array (Option Value)} {f : Addr} {pos : List Value} {kw : List (Str × Value)} {binds : List (Str × Value)}
    (h : ∀ g L' h₁ tk cells, g = s.heap → Fr g L' h₁ (bindL (envOfC qual scope L' f cdv).kindOf binds fun _ => none) → News g L' h₁ cells →
      CellsAre (bindC (envOfC qual scope L' f cdv).kindOf binds fun _ => none) (cellsFrom (L' + 1) scope.names []) cells → Below A base (env :: outer) g → K.In g → Top p loose mean mg mb g →
      wpAny (model prog w) (A.deeper (envOfC qual scope L' f cdv)) (execs body (envOfC qual scope L' f cdv))
        (fun fl s' => Q (match fl with | .ret v => v | _ => .none) s')
        (fun e s' => wpAny (model prog w) (A.deeper (envOfC qual scope L' f cdv)) (leaving (envOfC qual scope L' f cdv) e) (fun _ s'' => E e s'') (fun e' s'' => E e' s'') s')
        { s with heap := h₁, toks := tk })
    (hA : A.frames = some (env :: outer) := by exact rfl)
    (hf : env.frame = some L := by exact rfl)
    (hke : env.scope.kind = .function := by assumption)
    (B : Below A₀ base outer h₀ := by k_asm)
    (F : Fr h₀ L s.heap m := by k_asm)
    (X₀ : K.In h₀ := by k_asm)
    (T : Top p loose mean mg mb h₀ := by k_asm)
    (ho : K.lookup f = some ⟨oc, od, .func (fnOf name qual params body scope dV kV doc pm an cdv ct), osl⟩ := by k_is)
    (hcd : codeIn K cdv qual = true := by k_is)
    (hroom : A.depth < recursionLimit := by ktr_room)
    (hbind : BindsTo s (fnOf name qual params body scope dV kV doc pm an cdv ct) ⟨pos, kw⟩ binds := by exact BindsTo.of_eq rfl)
    (hkind : (binds.all fun y => scope.names.lookup y.1 == some .local || scope.names.lookup y.1 == some .cell) = true := by exact rfl)
    (hnd : ((cellsFrom 0 scope.names []).map (·.1)).Nodup := by decide +kernel)
    (hco : scope.isCoroutine = false := by exact rfl)
    (hgen : scope.isGenerator = false := by exact rfl)
    (hk : scope.kind = .function := by exact rfl) : wpAny (model prog w) A (call (.ref f) pos kw) Q E s :=
  enterC (h := h) (hA := hA) (hf := hf) (hke := hke) (B := B) (F := F) (X₀ := X₀) (T := T) (ho := ho) (hcd := hcd) (hroom := hroom) (hbind := hbind) (hkind := hkind) (hnd := hnd) (hco := hco) (hgen := hgen) (hk := hk)
end
/-! lists within lists -/
theorem subC {α : Type} {a : α} {l l' : List α} (h : a ∈ l') (k : ∀ p ∈ l, p ∈ l') : ∀ p ∈ a :: l, p ∈ l' := List.forall_mem_cons.mpr ⟨h, k⟩
theorem subN {α : Type} {l' : List α} : ∀ p ∈ ([] : List α), p ∈ l' := fun _ h => nomatch h
theorem neC {a d : Addr} {o : Obj} {l : List (Addr × Obj)} (h : a ≠ d) (k : ∀ p ∈ l, p.1 ≠ d) : ∀ p ∈ (a, o) :: l, p.1 ≠ d := List.forall_mem_cons.mpr ⟨h, k⟩
theorem neNil {d : Addr} : ∀ p ∈ ([] : List (Addr × Obj)), p.1 ≠ d := fun _ h => nomatch h
/-! to open a fact in one step -/
section
universe u1 u2 u3 u4 u5
theorem el_E3 {α : Sort u1} {β : Sort u2} {γ : Sort u3} {p q r : α → β → γ → Prop} {C : Prop} (h : ∃ a b c, p a b c ∧ q a b c ∧ r a b c) (k : ∀ a b c, p a b c → q a b c → r a b c → C) : C :=
  Exists.elim h fun a h => Exists.elim h fun b h => Exists.elim h fun c h => k a b c h.1 h.2.1 h.2.2
theorem el_a3 {a b c C : Prop} (h : a ∧ b ∧ c) (k : a → b → c → C) : C := k h.1 h.2.1 h.2.2
theorem el_a4 {a b c d C : Prop} (h : a ∧ b ∧ c ∧ d) (k : a → b → c → d → C) : C := k h.1 h.2.1 h.2.2.1 h.2.2.2
theorem el_a5 {a b c d e C : Prop} (h : a ∧ b ∧ c ∧ d ∧ e) (k : a → b → c → d → e → C) : C := k h.1 h.2.1 h.2.2.1 h.2.2.2.1 h.2.2.2.2
theorem el_a6 {a b c d e f C : Prop} (h : a ∧ b ∧ c ∧ d ∧ e ∧ f) (k : a → b → c → d → e → f → C) : C := k h.1 h.2.1 h.2.2.1 h.2.2.2.1 h.2.2.2.2.1 h.2.2.2.2.2
theorem el_a7 {a b c d e f g C : Prop} (h : a ∧ b ∧ c ∧ d ∧ e ∧ f ∧ g) (k : a → b → c → d → e → f → g → C) : C := k h.1 h.2.1 h.2.2.1 h.2.2.2.1 h.2.2.2.2.1 h.2.2.2.2.2.1 h.2.2.2.2.2.2
theorem el_a8 {a b c d e f g i C : Prop} (h : a ∧ b ∧ c ∧ d ∧ e ∧ f ∧ g ∧ i) (k : a → b → c → d → e → f → g → i → C) : C := k h.1 h.2.1 h.2.2.1 h.2.2.2.1 h.2.2.2.2.1 h.2.2.2.2.2.1 h.2.2.2.2.2.2.1 h.2.2.2.2.2.2.2
theorem el_E2 {T0 T1 : Type} {P : T0 → T1 → Prop} {C : Prop} (x : ∃ a b, P a b) (y : ∀ a b, P a b → C) : C :=
  Exists.elim x fun a x => Exists.elim x fun b x => y a b x
theorem el_E4 {T0 T1 T2 T3 : Type} {P : T0 → T1 → T2 → T3 → Prop} {C : Prop} (x : ∃ a b c d, P a b c d) (y : ∀ a b c d, P a b c d → C) : C :=
  Exists.elim x fun a x => Exists.elim x fun b x => Exists.elim x fun c x => Exists.elim x fun d x => y a b c d x
theorem el_E5 {T0 T1 T2 T3 T4 : Type} {P : T0 → T1 → T2 → T3 → T4 → Prop} {C : Prop} (x : ∃ a b c d e, P a b c d e) (y : ∀ a b c d e, P a b c d e → C) : C :=
  Exists.elim x fun a x => Exists.elim x fun b x => Exists.elim x fun c x => Exists.elim x fun d x => Exists.elim x fun e x => y a b c d e x
theorem el_E6 {T0 T1 T2 T3 T4 T5 : Type} {P : T0 → T1 → T2 → T3 → T4 → T5 → Prop} {C : Prop} (x : ∃ a b c d e f, P a b c d e f) (y : ∀ a b c d e f, P a b c d e f → C) : C :=
  el_E4 x fun a b c d p => el_E2 p (y a b c d)
theorem el_E7 {T0 T1 T2 T3 T4 T5 T6 : Type} {P : T0 → T1 → T2 → T3 → T4 → T5 → T6 → Prop} {C : Prop} (x : ∃ a b c d e f g, P a b c d e f g) (y : ∀ a b c d e f g, P a b c d e f g → C) : C :=
  el_E5 x fun a b c d e p => el_E2 p (y a b c d e)
theorem el_E8 {T0 T1 T2 T3 T4 T5 T6 T7 : Type} {P : T0 → T1 → T2 → T3 → T4 → T5 → T6 → T7 → Prop} {C : Prop} (x : ∃ a b c d e f g h, P a b c d e f g h) (y : ∀ a b c d e f g h, P a b c d e f g h → C) : C :=
  el_E4 x fun a b c d p => el_E4 p (y a b c d)
theorem el_E13 {T0 T1 T2 T3 T4 T5 T6 T7 T8 T9 T10 T11 T12 : Type} {P : T0 → T1 → T2 → T3 → T4 → T5 → T6 → T7 → T8 → T9 → T10 → T11 → T12 → Prop} {C : Prop} (x : ∃ a b c d e f g h i j k l m, P a b c d e f g h i j k l m) (y : ∀ a b c d e f g h i j k l m, P a b c d e f g h i j k l m → C) : C :=
  el_E5 x fun a b c d e p => el_E8 p (y a b c d e)
theorem el_E14 {T0 T1 T2 T3 T4 T5 T6 T7 T8 T9 T10 T11 T12 T13 : Type} {P : T0 → T1 → T2 → T3 → T4 → T5 → T6 → T7 → T8 → T9 → T10 → T11 → T12 → T13 → Prop} {C : Prop} (x : ∃ a b c d e f g h i j k l m n, P a b c d e f g h i j k l m n) (y : ∀ a b c d e f g h i j k l m n, P a b c d e f g h i j k l m n → C) : C :=
  el_E7 x fun a b c d e f g p => el_E7 p (y a b c d e f g)
theorem el_a9 {A0 A1 A2 A3 A4 A5 A6 A7 A8 C : Prop} (x : A0 ∧ A1 ∧ A2 ∧ A3 ∧ A4 ∧ A5 ∧ A6 ∧ A7 ∧ A8) (y : A0 → A1 → A2 → A3 → A4 → A5 → A6 → A7 → A8 → C) : C :=
  el_a6 x fun z0 z1 z2 z3 z4 r => el_a4 r (y z0 z1 z2 z3 z4)
theorem el_a10 {A0 A1 A2 A3 A4 A5 A6 A7 A8 A9 C : Prop} (x : A0 ∧ A1 ∧ A2 ∧ A3 ∧ A4 ∧ A5 ∧ A6 ∧ A7 ∧ A8 ∧ A9) (y : A0 → A1 → A2 → A3 → A4 → A5 → A6 → A7 → A8 → A9 → C) : C :=
  el_a6 x fun z0 z1 z2 z3 z4 r => el_a5 r (y z0 z1 z2 z3 z4)
theorem el_a11 {A0 A1 A2 A3 A4 A5 A6 A7 A8 A9 A10 C : Prop} (x : A0 ∧ A1 ∧ A2 ∧ A3 ∧ A4 ∧ A5 ∧ A6 ∧ A7 ∧ A8 ∧ A9 ∧ A10) (y : A0 → A1 → A2 → A3 → A4 → A5 → A6 → A7 → A8 → A9 → A10 → C) : C :=
  el_a6 x fun z0 z1 z2 z3 z4 r => el_a6 r (y z0 z1 z2 z3 z4)
theorem el_a12 {A0 A1 A2 A3 A4 A5 A6 A7 A8 A9 A10 A11 C : Prop} (x : A0 ∧ A1 ∧ A2 ∧ A3 ∧ A4 ∧ A5 ∧ A6 ∧ A7 ∧ A8 ∧ A9 ∧ A10 ∧ A11) (y : A0 → A1 → A2 → A3 → A4 → A5 → A6 → A7 → A8 → A9 → A10 → A11 → C) : C :=
  el_a6 x fun z0 z1 z2 z3 z4 r => el_a7 r (y z0 z1 z2 z3 z4)
theorem el_a13 {A0 A1 A2 A3 A4 A5 A6 A7 A8 A9 A10 A11 A12 C : Prop} (x : A0 ∧ A1 ∧ A2 ∧ A3 ∧ A4 ∧ A5 ∧ A6 ∧ A7 ∧ A8 ∧ A9 ∧ A10 ∧ A11 ∧ A12) (y : A0 → A1 → A2 → A3 → A4 → A5 → A6 → A7 → A8 → A9 → A10 → A11 → A12 → C) : C :=
  el_a6 x fun z0 z1 z2 z3 z4 r => el_a8 r (y z0 z1 z2 z3 z4)
theorem el_33 {a b c d e f C : Prop} (h : (a ∧ b ∧ c) ∧ d ∧ e ∧ f) (k : a → b → c → d → e → f → C) : C := el_a3 h.1 fun x y z => el_a3 h.2 fun u v w => k x y z u v w
theorem el_35 {a b c d e f a1 b1 c1 d1 e1 f1 a2 b2 c2 C : Prop} (h : (a ∧ b ∧ c) ∧ (d ∧ e ∧ f) ∧ (a1 ∧ b1 ∧ c1) ∧ (d1 ∧ e1 ∧ f1) ∧ a2 ∧ b2 ∧ c2) (k : a → b → c → d → e → f → a1 → b1 → c1 → d1 → e1 → f1 → a2 → b2 → c2 → C) : C :=
  el_a3 h.1 fun x y z => el_a3 h.2.1 fun u v w => el_a3 h.2.2.1 fun x1 y1 z1 => el_a3 h.2.2.2.1 fun u1 v1 w1 => el_a3 h.2.2.2.2 fun x2 y2 z2 => k x y z u v w x1 y1 z1 u1 v1 w1 x2 y2 z2
end
theorem keepOf {g h h' : Heap} {L : Addr} {m : Str → Option Value} (e : g = h) (F : Fr g L h' m) : ∀ b o, h.get? b = some o → h'.get? b = some o := e ▸ F.keep
theorem freshOf {g h h' : Heap} {L D : Addr} {o : Obj} {news : List (Addr × Obj)} (e : g = h) (N : News g L h' news) (hm : (D, o) ∈ news) : h.get? D = none ∧ h'.get? D = some o := ⟨e ▸ (N _ hm).2.2, (N _ hm).1⟩
abbrev tupO (vs : List Value) : Obj := { cls := .type "tuple", data := .seq vs.toArray }
theorem nf {b : Bool} (h : b = false) : ¬ b = true := by simp [h]

section
variable {w : World} {mean : ExcName → Option Value} {mg mb : Str → Option Value} {f : Addr} {lv : Nat} {vs : List Value} {Pre : Heap → Prop}
    {dp un : Nat} {gd : Option (List Code)} {cn : Str} {cs : Scope} {a : Addr} {ccd : Value} {cl : List (Str × Addr)} {outer : List Env} {A₀ : Around} {base h₀ : Heap} {L : Addr} {m : Str → Option Value} {s : Shared} {Q E : Value → Shared → Prop} {news : List (Addr × Obj)}
/-- a def that gives a plain value -/
theorem useV {V : Tok → Value} (C : Contract w mean mg mb f lv vs Pre (fun _ _ v => ∃ t, v = V t)) (pre : Pre s.heap)
    (ret : ∀ (t : Tok) (h' : Heap) (tk' : Nat), Fr h₀ L h' m → News h₀ L h' news → Q (V t) { s with heap := h', toks := tk' })
    (B : Below A₀ base outer h₀ := by k_asm) (F : Fr h₀ L s.heap m := by k_asm) (X : Frag.In (hd.heap_39 w.params) h₀ := by k_asm) (N : News h₀ L s.heap news := by k_asm) (T : Top hd.view_39 (looseW hd.view_39 [Str.ofString "ONE_THIRD", Str.ofString "ONE_SIXTH", Str.ofString "TWO_THIRD"]) mean mg mb h₀ := by k_asm)
    (hk : cs.kind = .function := by first | exact rfl | assumption) (hdp : dp + lv < recursionLimit := by ktr_room) (hu : un + 8 * lv < cLine := by ktr_units) :
    wpAny (model PySem.Challenge.rw_pg0052_01.row.prog w) (ktrTop dp un gd cn cs L a ccd cl outer) (call (.ref f) vs) Q E s :=
  use C B F X N T hk hdp hu pre fun _ h' tk' o _ _ F' N' _ => let ⟨t, e⟩ := o; e ▸ ret t h' tk' F' N'
end
/-! the pure functions that colorsys computes -/
abbrev f1 : UInt64 := 4607182418800017408
abbrev f2 : UInt64 := 4611686018427387904
abbrev f4 : UInt64 := 4616189618054758400
abbrev f6 : UInt64 := 4618441417868443648
abbrev fHalf : UInt64 := 4602678819172646912
abbrev fThird : UInt64 := 4599676419421066581
abbrev fSixth : UInt64 := 4595172819793696085
abbrev fTwoThird : UInt64 := 4604180019048437077
def vF (m1 m2 hue : UInt64) : UInt64 :=
  if (Float64.cmp (Float64.divmod hue f1).snd fSixth == some .lt) = true then
    Float64.add m1 (Float64.mul (Float64.mul (Float64.sub m2 m1) (Float64.divmod hue f1).snd) f6)
  else if (Float64.cmp (Float64.divmod hue f1).snd fHalf == some .lt) = true then m2
  else if (Float64.cmp (Float64.divmod hue f1).snd fTwoThird == some .lt) = true then
    Float64.add m1 (Float64.mul (Float64.mul (Float64.sub m2 m1) (Float64.sub fTwoThird (Float64.divmod hue f1).snd)) f6)
  else m1
def maxF (a b c : UInt64) : UInt64 :=
  if Float64.cmp a b == some .lt then (if Float64.cmp b c == some .lt then c else b) else (if Float64.cmp a c == some .lt then c else a)
def minF (a b c : UInt64) : UInt64 :=
  if Float64.cmp b a == some .lt then (if Float64.cmp c b == some .lt then c else b) else (if Float64.cmp c a == some .lt then c else a)
def lightF (r g b : UInt64) : UInt64 := Float64.div (Float64.add (maxF r g b) (minF r g b)) f2
def shareF (r g b : UInt64) : UInt64 :=
  if (Float64.cmp (lightF r g b) fHalf == some .lt || Float64.cmp (lightF r g b) fHalf == some .eq) = true then
    Float64.div (Float64.sub (maxF r g b) (minF r g b)) (Float64.add (maxF r g b) (minF r g b))
  else Float64.div (Float64.sub (maxF r g b) (minF r g b)) (Float64.sub (Float64.sub f2 (maxF r g b)) (minF r g b))
def offF (r g b x : UInt64) : UInt64 := Float64.div (Float64.sub (maxF r g b) x) (Float64.sub (maxF r g b) (minF r g b))
def hueF (r g b : UInt64) : UInt64 :=
  (Float64.divmod (Float64.div
    (if (Float64.cmp r (maxF r g b) == some .eq) = true then Float64.sub (offF r g b b) (offF r g b g)
     else if (Float64.cmp g (maxF r g b) == some .eq) = true then Float64.sub (Float64.add f2 (offF r g b r)) (offF r g b b)
     else Float64.sub (Float64.add f4 (offF r g b g)) (offF r g b r)) f6) f1).snd
def HlsOk (r g b : UInt64) : Prop :=
  Float64.isZero (Float64.sub (maxF r g b) (minF r g b)) = false ∧ Float64.isZero (Float64.add (maxF r g b) (minF r g b)) = false ∧
  Float64.isZero (Float64.sub (Float64.sub f2 (maxF r g b)) (minF r g b)) = false
def m2F (l s : UInt64) : UInt64 :=
  if (Float64.cmp l fHalf == some .lt || Float64.cmp l fHalf == some .eq) = true then Float64.mul l (Float64.add f1 s)
  else Float64.sub (Float64.add l s) (Float64.mul l s)
def m1F (l s : UInt64) : UInt64 := Float64.sub (Float64.mul f2 l) (m2F l s)
def hlsH (r g b : UInt64) : UInt64 := if (Float64.cmp (minF r g b) (maxF r g b) == some .eq) = true then 0 else hueF r g b
def hlsS (r g b : UInt64) : UInt64 := if (Float64.cmp (minF r g b) (maxF r g b) == some .eq) = true then 0 else shareF r g b
def outR (h l s : UInt64) : UInt64 := if (Float64.cmp s 0 == some .eq) = true then l else vF (m1F l s) (m2F l s) (Float64.add h fThird)
def outG (h l s : UInt64) : UInt64 := if (Float64.cmp s 0 == some .eq) = true then l else vF (m1F l s) (m2F l s) h
def outB (h l s : UInt64) : UInt64 := if (Float64.cmp s 0 == some .eq) = true then l else vF (m1F l s) (m2F l s) (Float64.sub h fThird)
/-- int / int -/
def FD (a b : Int) : UInt64 := Float64.ofFrac (decide (a < 0) != decide (b < 0)) a.natAbs b.natAbs
def min3 (a b c : Int) : Int := min a (min b c)
abbrev c35 : Int := 2 ^ Int.toNat 35
/-- int(2 ** 35 * x + 0.5) -/
abbrev scaleF (x : UInt64) : UInt64 := Float64.add (Float64.mul (Float64.ofInt c35) x) fHalf
abbrev tI (x : UInt64) : Int := Flt.toInt Float64.truncOf (scaleF x)
/-- a part told to rgb_to_hls -/
abbrev rgbF (p p0 p1 p2 white : Int) : UInt64 := FD (p - min3 p0 p1 p2 + white) c35
abbrev tnR (r g b : UInt64) (sixths : Int) : UInt64 := outR (Float64.add (hlsH r g b) (FD sixths 6)) (lightF r g b) (hlsS r g b)
abbrev tnG (r g b : UInt64) (sixths : Int) : UInt64 := outG (Float64.add (hlsH r g b) (FD sixths 6)) (lightF r g b) (hlsS r g b)
abbrev tnB (r g b : UInt64) (sixths : Int) : UInt64 := outB (Float64.add (hlsH r g b) (FD sixths 6)) (lightF r g b) (hlsS r g b)
/-- what _law_turned asks of the floats -/
structure TurnOk (r g b : UInt64) (sixths : Int) : Prop where
  ok : (Float64.cmp (minF r g b) (maxF r g b) == some .eq) = false → HlsOk r g b
  fr : Float64.isFinite (scaleF (tnR r g b sixths)) = true
  fg : Float64.isFinite (scaleF (tnG r g b sixths)) = true
  fb : Float64.isFinite (scaleF (tnB r g b sixths)) = true
theorem Contract.out {w : World} {mean : ExcName → Option Value} {mg mb : Str → Option Value} {f : Addr} {lv : Nat} {vs : List Value} {Pre : Heap → Prop} {Out Out' : Heap → Heap → Value → Prop}
    (C : Contract w mean mg mb f lv vs Pre Out) (i : ∀ h h' v, Out h h' v → Out' h h' v) : Contract w mean mg mb f lv vs Pre Out' :=
  fun dp un gd cn cs a ccd cl outer A₀ base h₀ L m s Q E B F X T hk hdp hu pre ret => C dp un gd cn cs a ccd cl outer A₀ base h₀ L m s Q E B F X T hk hdp hu pre fun v h' tk' o => ret v h' tk' (i _ _ _ o)
abbrev OutList3 (x y z : Int) (h h' : Heap) (v : Value) : Prop := ∃ D t1 t2 t3 n, v = .ref D ∧ h.get? D = none ∧ h'.get? D = some ({ cls := .type "list", data := .seq #[.int x t1, .int y t2, .int z t3] n } : Obj)
section
variable {w : World} {mean : ExcName → Option Value} {mg mb : Str → Option Value} {f : Addr} {lv : Nat} {vs : List Value} {Pre : Heap → Prop}
    {dp un : Nat} {gd : Option (List Code)} {cn : Str} {cs : Scope} {a : Addr} {ccd : Value} {cl : List (Str × Addr)} {outer : List Env} {A₀ : Around} {base h₀ : Heap} {L : Addr} {m : Str → Option Value} {s : Shared} {Q E : Value → Shared → Prop} {news : List (Addr × Obj)}
/-- a def that gives a new list of three numbers -/
theorem useL {x y z : Int} (C : Contract w mean mg mb f lv vs Pre (OutList3 x y z)) (pre : Pre s.heap)
    (ret : ∀ (D : Addr) (t1 t2 t3 : Tok) (n : Nat) (h' : Heap) (tk' : Nat), AllNe D news → Fr h₀ L h' m → News h₀ L h' ((D, { cls := .type "list", data := .seq #[.int x t1, .int y t2, .int z t3] n }) :: news) → Q (.ref D) { s with heap := h', toks := tk' })
    (B : Below A₀ base outer h₀ := by k_asm) (F : Fr h₀ L s.heap m := by k_asm) (X : Frag.In (hd.heap_39 w.params) h₀ := by k_asm) (N : News h₀ L s.heap news := by k_asm) (T : Top hd.view_39 (looseW hd.view_39 [Str.ofString "ONE_THIRD", Str.ofString "ONE_SIXTH", Str.ofString "TWO_THIRD"]) mean mg mb h₀ := by k_asm)
    (hk : cs.kind = .function := by first | exact rfl | assumption) (hdp : dp + lv < recursionLimit := by ktr_room) (hu : un + 8 * lv < cLine := by ktr_units) :
    wpAny (model PySem.Challenge.rw_pg0052_01.row.prog w) (ktrTop dp un gd cn cs L a ccd cl outer) (call (.ref f) vs) Q E s :=
  use C B F X N T hk hdp hu pre fun _ h' tk' o Fo No F' N' _ => el_E5 o fun D t1 t2 t3 n p => el_a3 p fun e hD hN => e ▸ ret D t1 t2 t3 n h' tk' (allNe_of (newsNe No hD)) F' (newsMore Fo N' hD hN)
/-- a def that gives a new tuple of three floats -/
theorem useT {x y z : UInt64} (C : Contract w mean mg mb f lv vs Pre (fun h h' v => ∃ D t1 t2 t3, v = .ref D ∧ h.get? D = none ∧ h'.get? D = some (tupO [.float x t1, .float y t2, .float z t3]))) (pre : Pre s.heap)
    (ret : ∀ (D : Addr) (t1 t2 t3 : Tok) (h' : Heap) (tk' : Nat), AllNe D news → Fr h₀ L h' m → News h₀ L h' ((D, tupO [.float x t1, .float y t2, .float z t3]) :: news) → Q (.ref D) { s with heap := h', toks := tk' })
    (B : Below A₀ base outer h₀ := by k_asm) (F : Fr h₀ L s.heap m := by k_asm) (X : Frag.In (hd.heap_39 w.params) h₀ := by k_asm) (N : News h₀ L s.heap news := by k_asm) (T : Top hd.view_39 (looseW hd.view_39 [Str.ofString "ONE_THIRD", Str.ofString "ONE_SIXTH", Str.ofString "TWO_THIRD"]) mean mg mb h₀ := by k_asm)
    (hk : cs.kind = .function := by first | exact rfl | assumption) (hdp : dp + lv < recursionLimit := by ktr_room) (hu : un + 8 * lv < cLine := by ktr_units) :
    wpAny (model PySem.Challenge.rw_pg0052_01.row.prog w) (ktrTop dp un gd cn cs L a ccd cl outer) (call (.ref f) vs) Q E s :=
  use C B F X N T hk hdp hu pre fun _ h' tk' o Fo No F' N' _ => el_E4 o fun D t1 t2 t3 p => el_a3 p fun e hD hN => e ▸ ret D t1 t2 t3 h' tk' (allNe_of (newsNe No hD)) F' (newsMore Fo N' hD hN)
end
end Mine
end
/-! part F3 -/
section
open PySem PySem.W PyProof.Rows PySem.Flt
namespace Mine
theorem max_three_fff {prog : Program} {w : World} {A : Around} {E : Value → Shared → Prop} {s : Shared} {Q : Value → Shared → Prop} {a b c : UInt64} {t u x : Tok} {h₀ : Heap} {L : Addr} {m : Str → Option Value} {news : List (Addr × Obj)}
    (hh : A.handled = none) (F : Fr h₀ L s.heap m) (N : News h₀ L s.heap news)
    (h : ∀ h' tk v, Fr h₀ L h' m → News h₀ L h' news → Q (.float (maxF a b c) v) { s with heap := h', toks := tk }) :
    wpAny (model prog w) A (call (.builtin "max") [.float a t, .float b u, .float c x]) Q E s := by
  have hT : (s.heap.push { cls := .type "tuple", data := .seq #[.float a t, .float b u, .float c x] }).IsTuple s.heap.objs.size #[.float a t, .float b u, .float c x] := ⟨_, Heap.get?_push_size _ rfl, rfl, 0, rfl⟩
  refine call_max_three (wpAny_pyIter_tuple hT ?_)
  have hsz : (s.heap.push { cls := .type "tuple", data := .seq #[.float a t, .float b u, .float c x] }).objs.size = s.heap.objs.size + 1 := Heap.size_push ..
  refine ⟨_, [_, s.heap.objs.size], [_], _, _, _, _, rfl, Walks.tuple (A := A.in1) hh _ s.heap.objs.size (by rw [hsz]; exact Nat.ne_of_lt (Nat.lt_succ_self _)) #[.float a t, .float b u, .float c x],
    ⟨⟨_, Heap.get?_push_size _ rfl, rfl, rfl⟩, hT.push _⟩, fun d hd => ?_, by simp, cmpOf_gt #[.float a t, .float b u, .float c x] ?_, fun v h' tk hP hk => ?_⟩
  · show d < ((s.heap.push _).push _).objs.size
    rw [Heap.size_push, hsz]
    rcases List.mem_cons.mp hd with rfl | hd
    · rw [hsz]; exact Nat.lt_succ_self _
    · rcases List.mem_cons.mp hd with rfl | hd
      · exact Nat.lt_succ_of_lt (Nat.lt_succ_self _)
      · cases hd
  · intro v hv
    simp at hv
    rcases hv with rfl | rfl | rfl <;> exact .float _ _
  · have hold : ∀ d o, s.heap.get? d = some o → h'.get? d = some o := fun d o e => by
      refine hk d o (fun hm => ?_) (Heap.get?_push_of_some _ (Heap.get?_push_of_some _ e))
      rcases List.mem_cons.mp hm with e1 | hm
      · have := Heap.lt_size e; rw [e1, hsz] at this; exact Nat.lt_irrefl _ (Nat.lt_of_succ_lt this)
      · cases hm
    have q := h h' tk
    have hv : ∃ v', v = .float (maxF a b c) v' := by
      have e1 : ∀ p q r r', ltV (.float p r) (.float q r') = (Float64.cmp p q == some .lt) := fun _ _ _ _ => rfl
      unfold maxF
      cases h1 : (Float64.cmp a b == some Ordering.lt) <;> cases h2 : (Float64.cmp a c == some Ordering.lt) <;> cases h3 : (Float64.cmp b c == some Ordering.lt) <;>
        simp [argBest, e1, h1, h2, h3] at hP <;> simp [← hP]
    obtain ⟨v', rfl⟩ := hv
    exact q v' (F.grownK hold) (N.grown hold)

theorem min_three_fff {prog : Program} {w : World} {A : Around} {E : Value → Shared → Prop} {s : Shared} {Q : Value → Shared → Prop} {a b c : UInt64} {t u x : Tok} {h₀ : Heap} {L : Addr} {m : Str → Option Value} {news : List (Addr × Obj)}
    (hh : A.handled = none) (F : Fr h₀ L s.heap m) (N : News h₀ L s.heap news)
    (h : ∀ h' tk v, Fr h₀ L h' m → News h₀ L h' news → Q (.float (minF a b c) v) { s with heap := h', toks := tk }) :
    wpAny (model prog w) A (call (.builtin "min") [.float a t, .float b u, .float c x]) Q E s := by
  have hT : (s.heap.push { cls := .type "tuple", data := .seq #[.float a t, .float b u, .float c x] }).IsTuple s.heap.objs.size #[.float a t, .float b u, .float c x] := ⟨_, Heap.get?_push_size _ rfl, rfl, 0, rfl⟩
  refine call_min_three (wpAny_pyIter_tuple hT ?_)
  have hsz : (s.heap.push { cls := .type "tuple", data := .seq #[.float a t, .float b u, .float c x] }).objs.size = s.heap.objs.size + 1 := Heap.size_push ..
  refine ⟨_, [_, s.heap.objs.size], [_], _, _, _, _, rfl, Walks.tuple (A := A.in1) hh _ s.heap.objs.size (by rw [hsz]; exact Nat.ne_of_lt (Nat.lt_succ_self _)) #[.float a t, .float b u, .float c x],
    ⟨⟨_, Heap.get?_push_size _ rfl, rfl, rfl⟩, hT.push _⟩, fun d hd => ?_, by simp, cmpOf_lt #[.float a t, .float b u, .float c x] ?_, fun v h' tk hP hk => ?_⟩
  · show d < ((s.heap.push _).push _).objs.size
    rw [Heap.size_push, hsz]
    rcases List.mem_cons.mp hd with rfl | hd
    · rw [hsz]; exact Nat.lt_succ_self _
    · rcases List.mem_cons.mp hd with rfl | hd
      · exact Nat.lt_succ_of_lt (Nat.lt_succ_self _)
      · cases hd
  · intro v hv
    simp at hv
    rcases hv with rfl | rfl | rfl <;> exact .float _ _
  · have hold : ∀ d o, s.heap.get? d = some o → h'.get? d = some o := fun d o e => by
      refine hk d o (fun hm => ?_) (Heap.get?_push_of_some _ (Heap.get?_push_of_some _ e))
      rcases List.mem_cons.mp hm with e1 | hm
      · have := Heap.lt_size e; rw [e1, hsz] at this; exact Nat.lt_irrefl _ (Nat.lt_of_succ_lt this)
      · cases hm
    have q := h h' tk
    have hv : ∃ v', v = .float (minF a b c) v' := by
      have e1 : ∀ p q r r', ltV (.float p r) (.float q r') = (Float64.cmp p q == some .lt) := fun _ _ _ _ => rfl
      unfold minF
      cases h1 : (Float64.cmp b a == some Ordering.lt) <;> cases h2 : (Float64.cmp c a == some Ordering.lt) <;> cases h3 : (Float64.cmp c b == some Ordering.lt) <;>
        simp [argBest, e1, h1, h2, h3] at hP <;> simp [← hP]
    obtain ⟨v', rfl⟩ := hv
    exact q v' (F.grownK hold) (N.grown hold)
end Mine
end
/-! part V1 -/
local macro_rules | `(tactic| ktr_enter) => `(tactic| (refine Mine.enterPA ?_; k_whole; intro g' L' h' eG F' N' B' X' T'; (try dsimp only); (try k_fold)))
local macro_rules | `(tactic| ktr_rel) => `(tactic| first | (k_unfold; (try dsimp only)) | (k_end; wrow_close) | walk1 | (dsimp only; walk1) | (leave1; try dsimp only) | (dsimp only; k_unfold; (try dsimp only)))
section
open PySem PySem.W PyProof.Rows
namespace Mine
local macro_rules | `(tactic| walk_at "call builtin:max") => `(tactic| ((with_reducible show wpAny _ _ (call _ [Value.float _ _, Value.float _ _, Value.float _ _]) _ _ _); (rename News _ _ _ _ => N'); (rename Fr _ _ _ _ => F'); refine max_three_fff rfl F' N' ?_; clear N'; intro _ _ _ _ _))
local macro_rules | `(tactic| walk_at "call builtin:min") => `(tactic| ((with_reducible show wpAny _ _ (call _ [Value.float _ _, Value.float _ _, Value.float _ _]) _ _ _); (rename News _ _ _ _ => N'); (rename Fr _ _ _ _ => F'); refine min_three_fff rfl F' N' ?_; clear N'; intro _ _ _ _ _))

abbrev OutFloat (x : UInt64) (_ _ : Heap) (v : Value) : Prop := ∃ t, v = .float x t
set_option maxRecDepth 100000 in
set_option maxHeartbeats 8000000 in
theorem c_v (w : World) (mean : ExcName → Option Value) (mg mb : Str → Option Value) (m1 m2 hue : UInt64) (t1 t2 t3 : Tok) :
    Contract w mean mg mb 42 1 [.float m1 t1, .float m2 t2, .float hue t3] (fun _ => True) (OutFloat (vF m1 m2 hue)) := by
  delta Contract Pg KK LS
  k_fill
  intro dp un gd cn cs a ccd cl outer A₀ base h₀ L m s Q E B F X T hk hd hu hpre hret
  w_top off
  k_dflt ktr_enter
  k_steps
  all_goals (refine hret _ _ _ ⟨_, congrArg (fun z => Value.float z _) ?_⟩ (keepOf (by assumption) (by assumption)))
  all_goals (unfold vF)
  · rw [if_pos (by assumption)]
  · rw [if_neg (nf (by assumption)), if_pos (by assumption)]
  · rw [if_neg (nf (by assumption)), if_neg (nf (by assumption)), if_pos (by assumption)]
  · rw [if_neg (nf (by assumption)), if_neg (nf (by assumption)), if_neg (nf (by assumption))]
/-- a new tuple of three floats -/
abbrev OutTup (x y z : UInt64) (h h' : Heap) (v : Value) : Prop := ∃ D t1 t2 t3, v = .ref D ∧ h.get? D = none ∧ h'.get? D = some (tupO [.float x t1, .float y t2, .float z t3])
theorem outTup {x y z x' y' z' : UInt64} {g h h' : Heap} {L D : Addr} {t1 t2 t3 : Tok} {news : List (Addr × Obj)} (e : g = h)
    (N : News g L h' ((D, { cls := Value.type "tuple", data := Data.seq #[Value.float x t1, Value.float y t2, Value.float z t3] }) :: news)) (ex : x = x') (ey : y = y') (ez : z = z') :
    OutTup x' y' z' h h' (.ref D) := by
  subst ex ey ez
  exact ⟨D, t1, t2, t3, rfl, freshOf e N (.head _)⟩
theorem hls_eq {r g b : UInt64} (h : (Float64.cmp (minF r g b) (maxF r g b) == some .eq) = true) : 0 = hlsH r g b ∧ 0 = hlsS r g b := by
  unfold hlsH hlsS; rw [if_pos h, if_pos h]; exact ⟨rfl, rfl⟩
theorem hls_ne {r g b : UInt64} (h : (Float64.cmp (minF r g b) (maxF r g b) == some .eq) = false) : hueF r g b = hlsH r g b ∧ shareF r g b = hlsS r g b := by
  unfold hlsH hlsS; rw [if_neg (nf h), if_neg (nf h)]; exact ⟨rfl, rfl⟩
def FltSet (h₀ : Heap) (L : Addr) (m : Str → Option Value) (news : List (Addr × Obj)) (x : Str) (V : UInt64) (s₀ : Shared) (f : Flow) (s' : Shared) : Prop :=
  f = .next ∧ ∃ t h tk, s' = { s₀ with heap := h, toks := tk } ∧ Fr h₀ L h (fun y => if y = x then some (.float V t) else m y) ∧ News h₀ L h news
theorem cutFl {prog : Program} {w : World} {A : Around} {E : Value → Shared → Prop} {s : Shared} {Q : Flow → Shared → Prop} {h₀ : Heap} {L : Addr} {m : Str → Option Value} {news : List (Addr × Obj)} {x : Sem Flow} (F : Fr h₀ L s.heap m) (N : News h₀ L s.heap news) (n : Str) (V : UInt64)
    (cut : wpAny (model prog w) A x (FltSet h₀ L m news n V s) E s) (rest : ∀ t h tk, Fr h₀ L h (fun y => if y = n then some (.float V t) else m y) → News h₀ L h news → Q .next { s with heap := h, toks := tk }) : wpAny (model prog w) A x Q E s :=
  wpAny_mono cut (fun f s' h => by obtain ⟨rfl, t, h, tk, rfl, F, N⟩ := h; exact rest t h tk F N) (fun _ _ e => e)
theorem FltSet.mk {h₀ h : Heap} {L : Addr} {m : Str → Option Value} {news : List (Addr × Obj)} {x : Str} {V V' : UInt64} {t : Tok} {s₀ : Shared} {tk : Nat} (F : Fr h₀ L h (fun y => if y = x then some (.float V' t) else m y)) (N : News h₀ L h news) (e : V' = V) :
    FltSet h₀ L m news x V s₀ .next { s₀ with heap := h, toks := tk } := by subst e; exact ⟨rfl, t, h, tk, rfl, F, N⟩
/-- the hue in sixths, ahead of its remainder -/
def rawF (r g b : UInt64) : UInt64 :=
  if (Float64.cmp r (maxF r g b) == some .eq) = true then Float64.sub (offF r g b b) (offF r g b g)
     else if (Float64.cmp g (maxF r g b) == some .eq) = true then Float64.sub (Float64.add f2 (offF r g b r)) (offF r g b b)
     else Float64.sub (Float64.add f4 (offF r g b g)) (offF r g b r)
abbrev OutRgb (r g b : UInt64) : Heap → Heap → Value → Prop := OutTup (hlsH r g b) (lightF r g b) (hlsS r g b)
local macro_rules | `(tactic| ktr_step) => `(tactic| repeat' (first | ((fail_if_success (with_reducible first | show wpAny _ _ (exec (Stmt.If ..) ..) .. | show FltSet ..)); ktr_rel)))
set_option maxRecDepth 100000 in
set_option maxHeartbeats 8000000 in
theorem c_rgb (w : World) (mean : ExcName → Option Value) (mg mb : Str → Option Value) (r g b : UInt64) (t1 t2 t3 : Tok)
    (ok : (Float64.cmp (minF r g b) (maxF r g b) == some .eq) = false → HlsOk r g b) :
    Contract w mean mg mb 28 1 [.float r t1, .float g t2, .float b t3] (fun _ => True) (OutRgb r g b) := by
  delta Contract Pg KK LS
  k_fill
  intro dp un gd cn cs a ccd cl outer A₀ base h₀ L m s Q E B F X T hk hd hu hpre hret
  w_top off
  k_dflt ktr_enter
  ktr_step
  walk1
  ktr_step
  · exact hret _ _ _ (outTup (by assumption) (by assumption) (hls_eq (by assumption)).1 rfl (hls_eq (by assumption)).2) (keepOf (by assumption) (by assumption))
  · have ok := ok (by assumption)
    refine cutFl (by k_asm) (by k_asm) (Str.ofString "s") (shareF r g b) ?_ ?_
    · walk1
      ktr_step
      · exfalso; have q := ok.2.1; simp_all
      · exact FltSet.mk (by k_asm) (by k_asm) (by unfold shareF lightF; rw [if_pos (by assumption)])
      · exfalso; have q := ok.2.2; simp_all
      · exact FltSet.mk (by k_asm) (by k_asm) (by unfold shareF lightF; rw [if_neg (nf (by assumption))])
    · intro ts h tk F' N'
      dsimp only
      ktr_step
      · exfalso; have q := ok.1; simp_all
      · refine cutFl (by k_asm) (by k_asm) (Str.ofString "h") (rawF r g b) ?_ ?_
        · walk1
          ktr_step
          · exact FltSet.mk (by k_asm) (by k_asm) (by unfold rawF offF; rw [if_pos (by assumption)])
          · walk1
            ktr_step
            · exact FltSet.mk (by k_asm) (by k_asm) (by unfold rawF offF; rw [if_neg (nf (by assumption)), if_pos (by assumption)])
            · exact FltSet.mk (by k_asm) (by k_asm) (by unfold rawF offF; rw [if_neg (nf (by assumption)), if_neg (nf (by assumption))])
        · intro th h tk F' N'
          dsimp only
          ktr_step
          exact hret _ _ _ (outTup (by assumption) (by assumption) (hls_ne (by assumption)).1 rfl (hls_ne (by assumption)).2) (keepOf (by assumption) (by assumption))
local macro_rules | `(tactic| walk_at "call ref") => `(tactic| (k_here; (with_reducible show wpAny _ _ (call (Value.ref 42) _) ..); k_dflt (refine useV (c_v _ _ _ _ _ _ _ _ _ _) trivial ?_); intro t9 h9 tk9 F9 N9; (try dsimp only)))
set_option maxRecDepth 100000 in
set_option maxHeartbeats 8000000 in
theorem c_hls (w : World) (mean : ExcName → Option Value) (mg mb : Str → Option Value) (h l s : UInt64) (t1 t2 t3 : Tok) :
    Contract w mean mg mb 35 2 [.float h t1, .float l t2, .float s t3] (fun _ => True) (OutTup (outR h l s) (outG h l s) (outB h l s)) := by
  delta Contract Pg KK LS
  k_fill
  intro dp un gd cn cs a ccd cl outer A₀ base h₀ L m st Q E B F X T hk hd hu hpre hret
  w_top off
  k_dflt ktr_enter
  ktr_step
  walk1
  ktr_step
  · refine hret _ _ _ (outTup (by assumption) (by assumption) ?_ ?_ ?_) (keepOf (by assumption) (by assumption))
    · unfold outR; rw [if_pos (by assumption)]
    · unfold outG; rw [if_pos (by assumption)]
    · unfold outB; rw [if_pos (by assumption)]
  · refine cutFl (by k_asm) (by k_asm) (Str.ofString "m2") (m2F l s) ?_ ?_
    · walk1
      ktr_step
      · exact FltSet.mk (by k_asm) (by k_asm) (by unfold m2F; rw [if_pos (by assumption)])
      · exact FltSet.mk (by k_asm) (by k_asm) (by unfold m2F; rw [if_neg (nf (by assumption))])
    · intro tm hh tk F' N'
      dsimp only
      ktr_step
      refine hret _ _ _ (outTup (by assumption) (by assumption) ?_ ?_ ?_) (keepOf (by assumption) (by assumption))
      · unfold outR m1F; rw [if_neg (nf (by assumption))]
      · unfold outG m1F; rw [if_neg (nf (by assumption))]
      · unfold outB m1F; rw [if_neg (nf (by assumption))]
end Mine
end
/-! part T0 -/
section
open PySem PySem.W PyProof.Rows PySem.Flt
namespace Mine
section
variable {prog : Program} {w : World} {A : Around} {E : Value → Shared → Prop} {s : Shared} {h₀ : Heap} {L : Addr} {m : Str → Option Value} {news : List (Addr × Obj)} {Q : Value → Shared → Prop}
theorem div_ii_ok {a b : Int} {t u : Tok} (hb : (b == 0) = false) (ha : a.natAbs < 2 ^ 60) (h : Q (.float (FD a b) s.toks) { s with toks := s.toks + 1 }) :
    wpAny (model prog w) A (binaryOp .Div (.int a t) (.int b u)) Q E s := by
  refine AutoIntOps.truediv_2 (by simp_all) (quot_fits ?_ (Nat.lt_of_lt_of_le ha (Nat.pow_le_pow_right (by omega) (by omega)))) h
  · have : b ≠ 0 := by simpa using hb
    omega
theorem int_fin {x : UInt64} {t : Tok} (hf : Float64.isFinite x = true) (h : Q (.int (toInt Float64.truncOf x) s.toks) { s with toks := s.toks + 1 }) : wpAny (model prog w) A (call (.type "int") [.float x t]) Q E s := by
  obtain ⟨sg, m, e, hd⟩ : ∃ sg m e, Float64.decode x = .fin sg m e := by
    unfold Float64.isFinite at hf
    cases hd : Float64.decode x with
    | nan => rw [hd] at hf; cases hf
    | inf a => rw [hd] at hf; cases hf
    | fin sg m e => exact ⟨_, _, _, rfl⟩
  rw [toInt_fin hd] at h
  exact call_int_float hd h
theorem min3_call {l : Addr} {p0 p1 p2 : Int} {u0 u1 u2 : Tok} (hh : A.handled = none) (F : Fr h₀ L s.heap m) (N : News h₀ L s.heap news) (hl : s.heap.IsList l [Value.int p0 u0, .int p1 u1, .int p2 u2].toArray)
    (h : ∀ h' (t : Tok) tk, Fr h₀ L h' m → News h₀ L h' news → Q (.int (min3 p0 p1 p2) t) { s with heap := h', toks := tk }) :
    wpAny (model prog w) A (call (.builtin "min") [.ref l]) Q E s := by
  refine min_list_N hh F N hl (ns := [p0, p1, p2]) (.cons _ _ (.cons _ _ (.cons _ _ .nil))) (by simp) fun h' M t tk F' N' hM hle => ?_
  have e : M = min3 p0 p1 p2 := by
    have h0 := hle p0 (by simp)
    have h1 := hle p1 (by simp)
    have h2 := hle p2 (by simp)
    have h3 : M ≤ min3 p0 p1 p2 := Int.le_min.mpr ⟨h0, Int.le_min.mpr ⟨h1, h2⟩⟩
    refine Int.le_antisymm h3 ?_
    simp only [List.mem_cons, List.not_mem_nil, or_false] at hM
    rcases hM with e | e | e
    · rw [e]; exact Int.min_le_left ..
    · rw [e]; exact Int.le_trans (Int.min_le_right ..) (Int.min_le_left ..)
    · rw [e]; exact Int.le_trans (Int.min_le_right ..) (Int.min_le_right ..)
  rw [e]
  exact h h' t tk F' N'
end

/-! a comprehension over a tuple of the ledger -/
def TupAt (ax : Addr) (its : Array Value) (news : List (Addr × Obj)) : Prop := ∃ k, (ax, ({ cls := .type "tuple", data := .seq its k } : Obj)) ∈ news
theorem TupAt.tup {h₀ h : Heap} {L ax : Addr} {its : Array Value} {news : List (Addr × Obj)} (x : TupAt ax its news) (N : News h₀ L h news) : h.IsTuple ax its :=
  let ⟨k, hm⟩ := x; ⟨_, N.get hm, rfl, k, rfl⟩
def CompSrcT (prog : Program) (w : World) (A : Around) (h₀ : Heap) (L : Addr) (m : Str → Option Value) (env : Env) (elt : Expr) (x : Str) (scope : Scope) (cl : List (Str × Addr)) (Fin : Shared → List Value → List (Addr × Obj) → Prop) (xv : Value) (s₁ : Shared) : Prop :=
  ∃ ax its news, xv = .ref ax ∧ A.handled = none ∧ Fr h₀ L s₁.heap m ∧ News h₀ L s₁.heap news ∧ TupAt ax its news ∧ its.size ≤ sizeLine ∧
    ∀ s₂ : Shared, (∃ h, s₂ = { s₁ with heap := h }) → PyProof.Rows.LCg.CompRest prog w A h₀ L m env elt x scope cl s₂ (TupAt ax its) (fun i v => its[i]? = some v) (Fin s₂) its.size 0 [] news
section
variable {prog : Program} {w : World} {A : Around} {E : Value → Shared → Prop} {s : Shared} {h₀ : Heap} {L : Addr} {m : Str → Option Value} {env : Env}
theorem CompSrcT.intro {elt : Expr} {x : Str} {scope : Scope} {cl : List (Str × Addr)} {Fin : Shared → List Value → List (Addr × Obj) → Prop} {ax : Addr} {its : Array Value} {k : Nat} {news : List (Addr × Obj)} {s₁ : Shared}
    (hh : A.handled = none) (F : Fr h₀ L s₁.heap m) (N : News h₀ L s₁.heap news) (hm : (ax, ({ cls := .type "tuple", data := .seq its k } : Obj)) ∈ news) (hsz : its.size ≤ sizeLine)
    (h : ∀ g, PyProof.Rows.LCg.CompRest prog w A h₀ L m env elt x scope cl { s₁ with heap := g } (TupAt ax its) (fun i v => its[i]? = some v) (Fin { s₁ with heap := g }) its.size 0 [] news) :
    CompSrcT prog w A h₀ L m env elt x scope cl Fin (.ref ax) s₁ := ⟨ax, its, news, rfl, hh, F, N, ⟨_, hm⟩, hsz, fun _ ⟨g, e⟩ => e ▸ h g⟩
theorem tup_st {ax I : Addr} {its : Array Value} : ∀ i (h h' : Heap) (o : Obj) (nw : List (Addr × Obj)), (h.IsTupleIter I ax i ∧ h.IsTuple ax its) → h.get? I = some o → h'.get? I = some o → (∀ b o, h₀.get? b = some o → h'.get? b = some o) → News h₀ L h' nw → TupAt ax its nw → (h'.IsTupleIter I ax i ∧ h'.IsTuple ax its) :=
  fun i h h' o nw st e e' k N S => ⟨by obtain ⟨o', q, r⟩ := st.1; rw [e] at q; cases q; exact ⟨o, e', r⟩, S.tup N⟩
theorem ListComp_T {elt iter : Expr} {x : Str} {px : Pos} {scope : Scope} {cl : List (Str × Addr)} {pos : Pos} {Q : Value → Shared → Prop} (F₀ : Fr h₀ L s.heap m)
    (hclos : closureFor scope env = pure cl) (hcell : ∀ y ∈ scope.names, y.2 ≠ .cell) (hkind : scope.kind = .function)
    (hnames : ∀ y ∈ scope.names, y.2 = .local → scope.names.lookup y.1 = some .local) (hx : scope.names.lookup x = some .local)
    (h : wpAny (model prog w) A (eval iter env) (CompSrcT prog w A h₀ L m env elt x scope cl (fun s₂ => PyProof.Rows.LCg.FinE h₀ L m s₂ Q)) E s)
    (hs : ∀ x, foldedSetIterable iter env x = pure x := by intro _; rfl) :
    wpAny (model prog w) A (eval (.ListComp elt [⟨.Name x px, iter, [], 0⟩] scope pos) env) Q E s := by
  rw [eval_ListComp]
  refine wpAny_comprehension_free (use := none) rfl hs hclos hkind hnames (wpAny_mono h (fun xv s₁ h₁ => ?_) fun _ _ e => e)
  obtain ⟨ax, its, news, rfl, hh, F, N, S, hsz, R⟩ := h₁
  have hl := S.tup N
  have hlt : ax < s₁.heap.objs.size := by obtain ⟨_, e, _⟩ := hl; exact Heap.lt_size e
  refine wpAny_pyIter_tuple hl ?_
  have up : ∀ b o, s₁.heap.get? b = some o → (s₁.heap.push { cls := .type "tuple_iterator", data := .fields #[.ref ax, .int 0 0] }).get? b = some o := fun b o e => Heap.get?_push_of_some _ e
  refine PyProof.Rows.LCg.block_U (Walks.tuple hh s₁.heap.objs.size ax (Nat.ne_of_lt hlt) its) hsz (fun i h st => by obtain ⟨o, e, _⟩ := st.1; exact ⟨o, e⟩) tup_st hcell hkind hx ⟨⟨_, Heap.get?_push_size _ rfl, rfl, rfl⟩, hl.push _⟩ (fun b hb => ?_)
    (F.keeps up) (N.grown up) (Nat.ne_of_lt F.ns.lt) (next_is_new F) (fun p hp => Nat.ne_of_lt (Heap.lt_size (N p hp).1)) S (R _ ⟨_, rfl⟩) ?_
  · show b < (s₁.heap.push _).objs.size
    rw [Heap.size_push]
    rcases List.mem_cons.mp hb with rfl | hb
    · exact Nat.lt_succ_self _
    · rw [List.mem_singleton.mp hb]; exact Nat.lt_succ_of_lt hlt
  · intro D C h tk m' ys news' F' N' o1 hn hC₀ hD₀ hCL hDL hCD offC fin
    refine ⟨m', hn, fun h'' hs'' => fin D h'' tk (F'.change hs'' hCL hC₀) (fun p hp => ?_) o1⟩
    refine ⟨hs''.extBut _ _ ?_ (N' p hp).1, (N' p hp).2⟩
    rcases List.mem_cons.mp hp with rfl | hp
    · exact Ne.symm hCD
    · exact offC p hp
end
end Mine
end
/-! part V4 -/
local macro_rules | `(tactic| kwd_rel) => `(tactic| first | assumption | (apply And.left; assumption) | (apply And.left; apply And.right; assumption) | (apply And.left; apply And.right; apply And.right; assumption) | (apply And.left; apply And.right; apply And.right; apply And.right; assumption) | (apply And.left; apply And.right; apply And.right; apply And.right; apply And.right; assumption) | (apply And.left; apply And.right; apply And.right; apply And.right; apply And.right; apply And.right; assumption) | (apply And.left; apply And.right; apply And.right; apply And.right; apply And.right; apply And.right; apply And.right; assumption) | (apply And.left; apply And.right; apply And.right; apply And.right; apply And.right; apply And.right; apply And.right; apply And.right; assumption) | (apply And.left; apply And.right; apply And.right; apply And.right; apply And.right; apply And.right; apply And.right; apply And.right; apply And.right; assumption) | (apply And.right; assumption) | (apply And.right; apply And.right; assumption) | (apply And.right; apply And.right; apply And.right; assumption) | (apply And.right; apply And.right; apply And.right; apply And.right; assumption) | (apply And.right; apply And.right; apply And.right; apply And.right; apply And.right; assumption) | (apply And.right; apply And.right; apply And.right; apply And.right; apply And.right; apply And.right; assumption) | (apply And.right; apply And.right; apply And.right; apply And.right; apply And.right; apply And.right; apply And.right; assumption) | (apply And.right; apply And.right; apply And.right; apply And.right; apply And.right; apply And.right; apply And.right; apply And.right; assumption))
local macro_rules | `(tactic| k_ne) => `(tactic| with_reducible first | kwd_rel | (refine Ne.symm ?_; kwd_rel) | (refine Nat.ne_of_lt ?_; kwd_rel) | (refine Nat.ne_of_gt ?_; kwd_rel))
local macro_rules | `(tactic| tb_start) => `(tactic| (refine Mine.enterCA ?_; k_whole; intro g' L' h' tk' cells' eG F' N' Y' B' X' T'; k_cells Y'; (try simp only [List.cons_append, List.nil_append] at N'); (try dsimp only); (try k_fold)))
section
open PySem PySem.W PyProof.Rows
namespace Mine
local macro_rules | `(tactic| walk_at "call ref") => `(tactic| (k_here; (with_reducible show wpAny _ _ (call (Value.ref 28) _) ..); k_dflt (refine useT (c_rgb _ _ _ _ _ _ _ _ _ _ (by assumption)) trivial ?_); intro D9 t91 t92 t93 h9 tk9 ne9 F9 N9; (dsimp only [AllNe] at ne9); refine el_a4 ne9 ?_; clear ne9; intro n91 n92 n93 _; (try dsimp only)))
local macro_rules | `(tactic| walk_at "call ref") => `(tactic| (k_here; (with_reducible show wpAny _ _ (call (Value.ref 35) _) ..); k_dflt (refine useT (c_hls _ _ _ _ _ _ _ _ _ _) trivial ?_); intro D9 t91 t92 t93 h9 tk9 ne9 F9 N9; (dsimp only [AllNe] at ne9); refine el_a5 ne9 ?_; clear ne9; intro n91 n92 n93 n94 _; (try dsimp only)))
local macro_rules | `(tactic| walk_at "CompSrc") => `(tactic| (k_here; k_dflt (refine LCg.CompSrc.base (by rfl) (by k_asm) (by k_asm) (by with_reducible assumption) (by exact Nat.le_of_ble_eq_true rfl) ?_); intro g'; lcg_lit))
local macro_rules | `(tactic| walk_at "CompSrcT") => `(tactic| (k_here; k_dflt (refine CompSrcT.intro (by rfl) (by k_asm) (by k_asm) (by k_mem) (by exact Nat.le_of_ble_eq_true rfl) ?_); intro g'; lcg_lit))
local macro_rules | `(tactic| walk_at "binaryOp Div int int") => `(tactic| (k_here; (k_dflt (refine div_ii_ok (by rfl) (by omega) ?_)); (try dsimp only)))
local macro_rules | `(tactic| walk_at "call builtin:min") => `(tactic| (k_here; (with_reducible show wpAny _ _ (call (Value.builtin _) [Value.ref _]) _ _ _); (with_unfolding_all refine' min3_call ?k1 ?k2 ?k3 ?k4 ?_; (case k1 => with_unfolding_all rfl); (case k2 => k_asm); (case k3 => k_asm); (case k4 => exact stays_list (Fr.keep (by k_asm)) (by with_reducible assumption)); k_whole); intro h' t' k' F' N'; (try k_sweep)))
local macro_rules | `(tactic| walk_at "eval ListComp") => `(tactic| (k_here; (with_reducible show wpAny _ _ (eval (Expr.ListComp _ [⟨Expr.Name _ _, Expr.Call _ _ _ _, [], 0⟩] _ _) _) _ _ _); k_dflt (refine ListComp_T (F₀ := by k_asm) (by rfl) (by decide) (by rfl) (by decide) (by rfl) ?_)))
local macro_rules | `(tactic| walk_at "call type:int") => `(tactic| (k_here; (with_reducible show wpAny _ _ (call _ [Value.float _ _]) _ _ _); (k_dflt (refine int_fin (by assumption) ?_)); (try dsimp only)))
local macro_rules | `(tactic| lcg_src) => `(tactic| exact ⟨_, by k_mem⟩)
local macro_rules | `(tactic| walk_at "CompRest") => `(tactic| (with_unfolding_all ((refine LCg.CompRest.succ ?_; intro v' I' oI' C' oC' D' m' h' tk' E' hv' hC' hx' F' N' off' ne'; (first | lcg_open hv' | (obtain ⟨t9', hv9'⟩ := hv'; subst hv9')); (try simp only [LCg.Off3, and_true] at off'); (first | (refine el_35 off' ?_; clear off'; intro q0 q1 q2 q3 q4 q5 q6 q7 q8 q9 r0 r1 r2 r3 r4) | (refine el_33 off' ?_; clear off'; intro q0 q1 q2 q3 q4 q5))))))
set_option maxRecDepth 100000 in
set_option maxHeartbeats 8000000 in
theorem c_turned (w : World) (mean : ExcName → Option Value) (mg mb : Str → Option Value) (P : Addr) (p0 p1 p2 sixths white : Int) (u0 u1 u2 t2 t3 : Tok)
    (b0 : (p0 - min3 p0 p1 p2 + white).natAbs < 2 ^ 60) (b1 : (p1 - min3 p0 p1 p2 + white).natAbs < 2 ^ 60) (b2 : (p2 - min3 p0 p1 p2 + white).natAbs < 2 ^ 60) (b3 : sixths.natAbs < 2 ^ 60)
    (ok : TurnOk (rgbF p0 p0 p1 p2 white) (rgbF p1 p0 p1 p2 white) (rgbF p2 p0 p1 p2 white) sixths) :
    Contract w mean mg mb 52 4 [.ref P, .int sixths t2, .int white t3] (fun h => h.IsList P [Value.int p0 u0, .int p1 u1, .int p2 u2].toArray)
      (OutList3 (tI (tnR (rgbF p0 p0 p1 p2 white) (rgbF p1 p0 p1 p2 white) (rgbF p2 p0 p1 p2 white) sixths) - white)
        (tI (tnG (rgbF p0 p0 p1 p2 white) (rgbF p1 p0 p1 p2 white) (rgbF p2 p0 p1 p2 white) sixths) - white)
        (tI (tnB (rgbF p0 p0 p1 p2 white) (rgbF p1 p0 p1 p2 white) (rgbF p2 p0 p1 p2 white) sixths) - white)) := by
  delta Contract Pg KK LS
  k_fill
  intro dp un gd cn cs a ccd cl outer A₀ base h₀ L m s Q E B F X T hk hd hu hpre hret
  w_top off
  k_dflt tb_start
  with_reducible rename _ = s.heap => eG
  rw [← eG] at hpre
  obtain ⟨ok0, fr, fg, fb⟩ := ok
  k_steps
  exact hret _ _ _ ⟨_, _, _, _, _, rfl, freshOf eG (by assumption) (.head _)⟩ (keepOf eG (by assumption))
end Mine
end
/-! part L0 -/
section
open PySem PySem.W PyProof.Rows
namespace Mine
section
variable {prog : Program} {w : World} {A : Around} {E : Value → Shared → Prop} {s : Shared} {Q : Flow → Shared → Prop} {env : Env}
/-- what a turn of a loop leaves -/
def TurnEnd (I : Nat → Heap → Prop) (n : Nat) (s : Shared) (Q : Flow → Shared → Prop) (f : Flow) (s₃ : Shared) : Prop :=
  match f with
  | .next => ∃ k h tk, k < n ∧ s₃ = { s with heap := h, toks := tk } ∧ I k h
  | .cont => ∃ k h tk, k < n ∧ s₃ = { s with heap := h, toks := tk } ∧ I k h
  | .brk => Q .next s₃
  | .ret v => Q (.ret v) s₃
theorem TurnEnd.next {I : Nat → Heap → Prop} {n k : Nat} {h : Heap} {tk : Nat} (hk : k < n) (hI : I k h) : TurnEnd I n s Q .next { s with heap := h, toks := tk } := ⟨k, h, tk, hk, rfl, hI⟩
theorem while_rule {test : Expr} {body : List Stmt} {pos : Pos} (I : Nat → Heap → Prop) (n : Nat) (hI : I n s.heap)
    (turn : ∀ n h tk (E' : Value → Shared → Prop), I n h → wpAny (model prog w) A (isTrue test env (eval test env)) (fun b s₂ =>
      if b then wpAny (model prog w) A (execs body env) (TurnEnd I n s Q) E' s₂ else Q .next s₂) E' { s with heap := h, toks := tk }) :
    wpAny (model prog w) A (exec (.While test body [] pos) env) Q E s := by
  refine wpAny_While (codeAny_whileLoop (fun n s' => ∃ h tk, s' = { s with heap := h, toks := tk } ∧ I n h) ?_ n ⟨s.heap, s.toks, rfl, hI⟩)
  rintro n _ ⟨h, tk, rfl, hI⟩
  refine wpAny_mono (turn n h tk _ hI) (fun b s₂ h₂ => ?_) fun _ _ e => e
  cases b with
  | false => exact wpAny_execs_nil h₂
  | true =>
    simp only [if_true] at h₂ ⊢
    refine wpAny_mono h₂ (fun f s₃ h₃ => ?_) fun _ _ e => e
    cases f with
    | next => obtain ⟨k, h, tk, hk, e, hI⟩ := h₃; exact ⟨k, hk, h, tk, e, hI⟩
    | cont => obtain ⟨k, h, tk, hk, e, hI⟩ := h₃; exact ⟨k, hk, h, tk, e, hI⟩
    | brk => exact h₃
    | ret v => exact h₃
theorem while_ruleF {g : Heap} {L : Addr} {m : Str → Option Value} {test : Expr} {body : List Stmt} {pos : Pos} (F : Fr g L s.heap m) (I : Heap → Addr → Nat → Heap → Prop) (n : Nat) (hI : I g L n s.heap)
    (turn : ∀ n h tk (E' : Value → Shared → Prop), I g L n h → wpAny (model prog w) A (isTrue test env (eval test env)) (fun b s₂ =>
      if b then wpAny (model prog w) A (execs body env) (TurnEnd (I g L) n s Q) E' s₂ else Q .next s₂) E' { s with heap := h, toks := tk }) :
    wpAny (model prog w) A (exec (.While test body [] pos) env) Q E s := while_rule (I g L) n hI turn
end
theorem Fr_see {g h : Heap} {L : Addr} {m : Str → Option Value} {x : Str} {v : Value} (F : Fr g L h m) (hx : m x = some v) : Fr g L h (fun y => if y = x then some v else m y) := by
  have e : (fun y => if y = x then some v else m y) = m := by
    funext y; by_cases hy : y = x
    · rw [if_pos hy, hy, hx]
    · rw [if_neg hy]
  rw [e]; exact F
end Mine
end
/-! part L1 -/
section
open PySem PySem.W PyProof.Rows PyProof.Rows.LCg
set_option linter.unusedVariables false
namespace Mine
section
variable {prog : Program} {w : World} {A : Around} {E : Value → Shared → Prop} {s : Shared} {Q : Flow → Shared → Prop} {env : Env} {h₀ : Heap} {L : Addr}
def ForEnd (h₀ : Heap) (L I : Addr) (oI : Obj) (S : List (Addr × Obj) → Prop) (J : (Str → Option Value) → List (Addr × Obj) → Prop) (s₁ : Shared) (Q : Flow → Shared → Prop) (f : Flow) (s₃ : Shared) : Prop :=
  match f with
  | .next => ∃ h tk m news, s₃ = { s₁ with heap := h, toks := tk } ∧ Fr h₀ L h m ∧ News h₀ L h ((I, oI) :: news) ∧ (∀ p ∈ news, p.1 ≠ I) ∧ S news ∧ J m news
  | .cont => ∃ h tk m news, s₃ = { s₁ with heap := h, toks := tk } ∧ Fr h₀ L h m ∧ News h₀ L h ((I, oI) :: news) ∧ (∀ p ∈ news, p.1 ≠ I) ∧ S news ∧ J m news
  | .brk => Q .next s₃
  | .ret v => Q (.ret v) s₃
theorem ForEnd.next {I : Addr} {oI : Obj} {S : List (Addr × Obj) → Prop} {J : (Str → Option Value) → List (Addr × Obj) → Prop} {h : Heap} {tk : Nat} {m : Str → Option Value} {all : List (Addr × Obj)} (F : Fr h₀ L h m) (N : News h₀ L h all) (news : List (Addr × Obj))
    (sub : ∀ p ∈ (I, oI) :: news, p ∈ all) (off : ∀ p ∈ news, p.1 ≠ I) (hS : S news) (hJ : J m news) : ForEnd h₀ L I oI S J s Q .next { s with heap := h, toks := tk } := ⟨h, tk, m, news, rfl, F, fun p hp => N p (sub p hp), off, hS, hJ⟩
/-- where a for stands with its iterator made -/
theorem for_loop {target : Expr} {body : List Stmt} {I : Addr} {fp : List Addr} {n : Nat} {P : Nat → Value → Prop} {St : Nat → Heap → Prop} {S : List (Addr × Obj) → Prop} {m : Str → Option Value} {news : List (Addr × Obj)} {R : Result → Shared → Prop}
    (W : Walks prog w A I fp [I] n P St) (hIo : ∀ i h, St i h → ∃ o, h.get? I = some o)
    (hSt : ∀ i h h' o nw, St i h → h.get? I = some o → h'.get? I = some o → (∀ b o, h₀.get? b = some o → h'.get? b = some o) → News h₀ L h' nw → S nw → St i h')
    (J : Nat → (Str → Option Value) → List (Addr × Obj) → Prop)
    (F : Fr h₀ L s.heap m) (N : News h₀ L s.heap news) (hst : St 0 s.heap) (hIL : L ≠ I) (hI₀ : h₀.get? I = none) (off : ∀ p ∈ news, p.1 ≠ I) (hS : S news) (hJ : J 0 m news)
    (turn : ∀ i v m₁ news₁ oI h tk (E' : Value → Shared → Prop), i < n → P i v → J i m₁ news₁ → (∀ p ∈ news₁, p.1 ≠ I) → S news₁ → Fr h₀ L h m₁ → News h₀ L h ((I, oI) :: news₁) →
      wpAny (model prog w) A (assign target env v) (fun _ s₃ => wpAny (model prog w) A (execs body env) (ForEnd h₀ L I oI S (J (i + 1)) s (fun f s' => R (.ok f) s')) E' s₃) E' { s with heap := h, toks := tk })
    (done : ∀ m₁ news₁ h tk, J n m₁ news₁ → Fr h₀ L h m₁ → News h₀ L h news₁ → R (.ok .next) { s with heap := h, toks := tk })
    (ht : ∀ v, letOwnedTupleGo target (.ref I) v = pure () := by intro _; rfl) :
    codeAny (model prog w) A (.forLoop target (.ref I) body [] env) R s := by
  refine codeAny_forLoop (fun k s' => ∃ h tk i m₁ news₁, s' = { s with heap := h, toks := tk } ∧ i ≤ n ∧ k = n + 1 - i ∧ St i h ∧ Fr h₀ L h m₁ ∧ News h₀ L h news₁ ∧ (∀ p ∈ news₁, p.1 ≠ I) ∧ S news₁ ∧ J i m₁ news₁) ?_ (n + 1)
    ⟨s.heap, s.toks, 0, m, news, rfl, Nat.zero_le _, rfl, hst, F, N, off, hS, hJ⟩ ht
  intro k s' hI
  refine el_E5 hI ?_
  clear hI
  intro h tk i m₁ news₁ hI
  refine el_a9 hI ?_
  clear hI
  intro e8 hi e9 hst' F' N' off' hS' hJ'
  subst e8 e9
  by_cases hlt : i < n
  · refine W.item i _ _ _ hlt hst' fun v h₂ tk₂ hPv hst₂ hk₂ => ?_
    obtain ⟨oI, heI⟩ := hIo _ _ hst₂
    have F₂ := fr_but F' hk₂ hIL hI₀
    have N₂ := news_but N' hk₂ off'
    have N₃ : News h₀ L h₂ ((I, oI) :: news₁) := fun p hp => by
      rcases List.mem_cons.mp hp with rfl | hp
      · exact ⟨heI, Ne.symm hIL, hI₀⟩
      · exact N₂ p hp
    refine wpAny_mono (turn i v m₁ news₁ oI h₂ tk₂ _ hlt hPv hJ' off' hS' F₂ N₃) (fun _ s₃ h₃ => wpAny_mono h₃ (fun f s₄ h₄ => ?_) fun _ _ e => e) fun _ _ e => e
    have fin : (∃ h tk m news, s₄ = { s with heap := h, toks := tk } ∧ Fr h₀ L h m ∧ News h₀ L h ((I, oI) :: news) ∧ (∀ p ∈ news, p.1 ≠ I) ∧ S news ∧ J (i + 1) m news) →
        ∃ k, k < n + 1 - i ∧ ∃ h tk i m₁ news₁, s₄ = { s with heap := h, toks := tk } ∧ i ≤ n ∧ k = n + 1 - i ∧ St i h ∧ Fr h₀ L h m₁ ∧ News h₀ L h news₁ ∧ (∀ p ∈ news₁, p.1 ≠ I) ∧ S news₁ ∧ J i m₁ news₁ := by
      rintro ⟨h₅, tk₅, m₅, news₅, rfl, F₅, N₅, off₅, hS₅, hJ₅⟩
      have N₆ : News h₀ L h₅ news₅ := fun p hp => N₅ p (List.mem_cons_of_mem _ hp)
      exact ⟨n + 1 - (i + 1), by omega, h₅, tk₅, i + 1, m₅, news₅, rfl, hlt, rfl, hSt _ _ _ _ _ hst₂ heI (N₅ _ List.mem_cons_self).1 F₅.keep N₆ hS₅, F₅, N₆, off₅, hS₅, hJ₅⟩
    cases f with
    | next => exact fin h₄
    | cont => exact fin h₄
    | brk => exact h₄
    | ret v => exact h₄
  · obtain rfl : i = n := Nat.le_antisymm hi (Nat.not_lt.mp hlt)
    refine W.done _ _ _ hst' fun h₂ tk₂ hk₂ => wpAny_execs_nil ?_
    exact done m₁ news₁ h₂ tk₂ hJ' (fr_but F' hk₂ hIL hI₀) (news_but N' hk₂ off')

/-- for x in range(..), whatever x is -/
theorem for_range {target : Expr} {body : List Stmt} {r : Addr} {a b : Int} {t u v : Tok} {n : Nat} {m : Str → Option Value} {news : List (Addr × Obj)}
    (hh : A.handled = none) (hr : IsRange s.heap r a b 1 t u v) (hsm : Builtin.Range.small a b 1 = true) (hn : Builtin.Range.rangeSize a b 1 = ((n : Nat) : Int))
    (F : Fr h₀ L s.heap m) (N : News h₀ L s.heap news) (J : Nat → (Str → Option Value) → List (Addr × Obj) → Prop) (hJ : J 0 m news)
    (turn : ∀ i t I m₁ news₁ oI h tk (E' : Value → Shared → Prop), i < n → J i m₁ news₁ → (∀ p ∈ news, p.1 < I) → (∀ p ∈ news₁, p.1 ≠ I) → Fr h₀ L h m₁ → News h₀ L h ((I, oI) :: news₁) →
      wpAny (model prog w) A (assign target env (.int (a + (i : Int)) t)) (fun _ s₃ => wpAny (model prog w) A (execs body env) (ForEnd h₀ L I oI (fun _ => True) (J (i + 1)) s Q) E' s₃) E' { s with heap := h, toks := tk })
    (done : ∀ m₁ news₁ h tk, J n m₁ news₁ → Fr h₀ L h m₁ → News h₀ L h news₁ → Q .next { s with heap := h, toks := tk })
    (ht : ∀ I v, letOwnedTupleGo target (.ref I) v = pure () := by intro _ _; rfl) :
    wpAny (model prog w) A (pyIter (.ref r)) (fun it s₂ => codeAny (model prog w) A (.forLoop target it body [] env) (fun r s' => match r with | .ok f => Q f s' | .error e => cameBackBy (model prog w) A env E e s') s₂) E s := by
  refine wpAny_pyIter_range hr hsm ?_
  have up : ∀ b o, s.heap.get? b = some o → (s.heap.push { cls := .type "range_iterator", data := .fields #[rawInt a, rawInt (Builtin.Range.rangeSize a b 1), rawInt 1] }).get? b = some o := fun b o e => Heap.get?_push_of_some _ e
  refine for_loop (range_walks hh a n) (fun i h st => ⟨_, st⟩) range_st J (F.keeps fun _ _ e => Heap.get?_push_of_some _ e) (N.grown fun _ _ e => Heap.get?_push_of_some _ e)
    (by show IsRangeIter _ _ _ _ _; rw [hn]; simpa using Heap.get?_push_size _ rfl) (Nat.ne_of_lt F.ns.lt) (next_is_new F) (fun p hp => Nat.ne_of_lt (Heap.lt_size (N p hp).1)) trivial hJ ?_ ?_ (fun v => ht _ v)
  · rintro i _ m₁ news₁ oI h tk E' hi ⟨t, rfl⟩ hJ' off' _ F' N'
    exact turn i t _ m₁ news₁ oI h tk E' hi hJ' (fun p hp => Heap.lt_size (N p hp).1) off' F' N'
  · intro m₁ news₁ h tk hJ' F' N'
    exact done m₁ news₁ h tk hJ' F' N'
end
end Mine
end
/-! part L2 -/
section
open PySem PySem.W PyProof.Rows PyProof.Rows.LCg
set_option linter.unusedVariables false
namespace Mine
section
variable {prog : Program} {w : World} {A : Around} {s : Shared} {env : Env} {h₀ : Heap} {L : Addr} {m : Str → Option Value}
/-- a turn's end in a comprehension that keeps the ledger -/
def KeepEnd (h₀ : Heap) (L : Addr) (m : Str → Option Value) (s : Shared) (led : List (Addr × Obj)) (R : Value → Prop) (y : Value) (s₂ : Shared) : Prop :=
  R y ∧ ∃ h tk, s₂ = { s with heap := h, toks := tk } ∧ Fr h₀ L h m ∧ News h₀ L h led
theorem KeepEnd.intro {led all : List (Addr × Obj)} {R : Value → Prop} {y : Value} {h : Heap} {tk : Nat} (F : Fr h₀ L h m) (N : News h₀ L h all) (sub : ∀ p ∈ led, p ∈ all) (r : R y) : KeepEnd h₀ L m s led R y { s with heap := h, toks := tk } :=
  ⟨r, h, tk, rfl, F, fun p hp => N p (sub p hp)⟩
theorem ints_snoc {ys : List Value} {ns : List Int} {n : Int} {t : Tok} (hy : IntsAre ys ns) : IntsAre (ys ++ [.int n t]) (ns ++ [n]) := by
  induction hy with
  | nil => exact .cons _ _ .nil
  | cons a b _ ih => exact .cons _ _ ih
theorem compT_gen {ct elt : Expr} {x : Str} {scope : Scope} {cl : List (Str × Addr)} {S : List (Addr × Obj) → Prop} {P : Nat → Value → Prop} {Fin : List Value → List (Addr × Obj) → Prop} {news : List (Addr × Obj)} (n : Nat) (p : Nat → Bool) (val : Nat → Int) (hS : S news)
    (turn : ∀ i v ys I oI C oC D m₂ h tk (E' : Value → Shared → Prop), i < n → P i v → NsObj oC m₂ → m₂ x = some v → Fr h₀ L h m → News h₀ L h ((I, oI) :: (C, oC) :: (D, lst ys) :: news) → Off3 I C D news → ((@Ne Nat I C) ∧ (@Ne Nat I D) ∧ (@Ne Nat C D)) →
      wpAny (model prog w) A (isTrue ct (compEnvC scope cl C env) (eval ct (compEnvC scope cl C env))) (fun ok s' => if ok = true then
        wpAny (model prog w) A (eval elt (compEnvC scope cl C env)) (KeepEnd h₀ L m s ((I, oI) :: (C, oC) :: (D, lst ys) :: news) (fun y => p i = true ∧ ∃ t, y = .int (val i) t)) E' s'
        else KeepEnd h₀ L m s ((I, oI) :: (C, oC) :: (D, lst ys) :: news) (fun _ => p i = false) Value.none s') E' { s with heap := h, toks := tk })
    (fin : ∀ ys, IntsAre ys (((List.range n).filter p).map val) → Fin ys news) :
    LCt.CompRestT prog w A h₀ L m env ct elt x scope cl s S P Fin n 0 [] news := by
  have gen : ∀ k i ys, i + k = n → IntsAre ys (((List.range i).filter p).map val) → LCt.CompRestT prog w A h₀ L m env ct elt x scope cl s S P Fin k i ys news := by
    intro k
    induction k with
    | zero =>
      intro i ys hi hy
      have : i = n := by omega
      subst this
      exact LCt.CompRestT.zero (fin ys hy)
    | succ k ih =>
      intro i ys hi hy
      refine LCt.CompRestT.succ fun v I oI C oC D m₂ h tk E' hv hC hx F N off ne => ?_
      refine wpAny_mono (turn i v ys I oI C oC D m₂ h tk E' (by omega) hv hC hx F N off ne) (fun ok s' h' => ?_) fun _ _ e => e
      have hr : (List.range (i + 1)).filter p = (List.range i).filter p ++ (if p i = true then [i] else []) := by
        rw [List.range_succ, List.filter_append]; congr 1
        by_cases hp : p i = true <;> simp [hp]
      cases ok with
      | true =>
        simp only [if_true] at h' ⊢
        refine wpAny_mono h' (fun y s'' h'' => ?_) fun _ _ e => e
        obtain ⟨⟨hp, t, rfl⟩, h₃, tk₃, rfl, F₃, N₃⟩ := h''
        refine ⟨h₃, tk₃, news, rfl, F₃, N₃, off, hS, ih (i + 1) _ (by omega) ?_⟩
        rw [hr, if_pos hp, List.map_append]
        exact ints_snoc hy
      | false =>
        simp only [Bool.false_eq_true, if_false] at h' ⊢
        obtain ⟨hp, h₃, tk₃, rfl, F₃, N₃⟩ := h'
        refine ⟨h₃, tk₃, news, rfl, F₃, N₃, off, hS, ih (i + 1) _ (by omega) ?_⟩
        rw [hr, if_neg (by simp [hp]), List.append_nil]
        exact hy
  exact gen n 0 [] (by omega) .nil
end
end Mine
end
/-! part L3 -/
section
open PySem PySem.W PyProof.Rows PyProof.Rows.LCg
set_option linter.unusedVariables false
namespace Mine
/-- a turn's end in a loop that is walked turn by turn: the iterator is taken out of the ledger -/
inductive Drop (I : Addr) (oI : Obj) : List (Addr × Obj) → List (Addr × Obj) → Prop where
  | here {r : List (Addr × Obj)} : AllNe I r → Drop I oI ((I, oI) :: r) r
  | keep {p : Addr × Obj} {r n : List (Addr × Obj)} : @Ne Nat p.1 I → Drop I oI r n → Drop I oI (p :: r) (p :: n)
theorem AllNe.off {I : Addr} : ∀ {l : List (Addr × Obj)}, AllNe I l → ∀ p ∈ l, p.1 ≠ I
  | [], _, _, h => nomatch h
  | _ :: _, x, p, h => by
    rcases List.mem_cons.mp h with rfl | h
    · exact x.1
    · exact AllNe.off x.2 p h
theorem Drop.sub {I : Addr} {oI : Obj} {a n : List (Addr × Obj)} (d : Drop I oI a n) : ∀ p ∈ (I, oI) :: n, p ∈ a := by
  induction d with
  | here _ => intro p hp; exact hp
  | keep _ _ ih =>
    intro p hp
    rcases List.mem_cons.mp hp with rfl | hp
    · exact List.mem_cons_of_mem _ (ih _ (.head _))
    · rcases List.mem_cons.mp hp with rfl | hp
      · exact .head _
      · exact List.mem_cons_of_mem _ (ih _ (.tail _ hp))
theorem Drop.off {I : Addr} {oI : Obj} {a n : List (Addr × Obj)} (d : Drop I oI a n) : ∀ p ∈ n, p.1 ≠ I := by
  induction d with
  | here h => exact h.off
  | keep h _ ih =>
    intro p hp
    rcases List.mem_cons.mp hp with rfl | hp
    · exact h
    · exact ih p hp
section
variable {prog : Program} {w : World} {A : Around} {E : Value → Shared → Prop} {s : Shared} {Q : Flow → Shared → Prop} {env : Env} {h₀ : Heap} {L : Addr}
/-- what a turn's end must show -/
def TEnd (h₀ : Heap) (L I : Addr) (oI : Obj) (S : List (Addr × Obj) → Prop) (s₁ : Shared) (Q : Flow → Shared → Prop) (J : (Str → Option Value) → List (Addr × Obj) → Prop) (f : Flow) (s₃ : Shared) : Prop := ForEnd h₀ L I oI S J s₁ Q f s₃
theorem TEnd.next {I : Addr} {oI : Obj} {S : List (Addr × Obj) → Prop} {J : (Str → Option Value) → List (Addr × Obj) → Prop} {h : Heap} {tk : Nat} {m : Str → Option Value} {all news : List (Addr × Obj)} (F : Fr h₀ L h m) (N : News h₀ L h all)
    (d : Drop I oI all news) (hS : S news) (hJ : J m news) : TEnd h₀ L I oI S s Q J .next { s with heap := h, toks := tk } := ForEnd.next F N news d.sub d.off hS hJ
/-- the turns that are left -/
def Turns (prog : Program) (w : World) (A : Around) (h₀ : Heap) (L : Addr) (env : Env) (target : Expr) (body : List Stmt) (s : Shared) (Q : Flow → Shared → Prop) (P : Nat → Value → Prop) (S : List (Addr × Obj) → Prop) : Nat → Nat → (Str → Option Value) → List (Addr × Obj) → Prop
  | 0, _, m, news => ∀ h tk, Fr h₀ L h m → News h₀ L h news → Q .next { s with heap := h, toks := tk }
  | k + 1, i, m, news => ∀ v I oI h tk (E' : Value → Shared → Prop), P i v → Fr h₀ L h m → News h₀ L h ((I, oI) :: news) → AllNe I news →
      wpAny (model prog w) A (assign target env v) (fun _ s₃ => wpAny (model prog w) A (execs body env) (TEnd h₀ L I oI S s Q (Turns prog w A h₀ L env target body s Q P S k (i + 1))) E' s₃) E' { s with heap := h, toks := tk }
theorem Turns.zero {target : Expr} {body : List Stmt} {P : Nat → Value → Prop} {S : List (Addr × Obj) → Prop} {i : Nat} {m : Str → Option Value} {news : List (Addr × Obj)}
    (h : ∀ h tk, Fr h₀ L h m → News h₀ L h news → Q .next { s with heap := h, toks := tk }) : Turns prog w A h₀ L env target body s Q P S 0 i m news := h
theorem Turns.succ {target : Expr} {body : List Stmt} {P : Nat → Value → Prop} {S : List (Addr × Obj) → Prop} {k i : Nat} {m : Str → Option Value} {news : List (Addr × Obj)}
    (h : ∀ v I oI h tk (E' : Value → Shared → Prop), P i v → Fr h₀ L h m → News h₀ L h ((I, oI) :: news) → AllNe I news →
      wpAny (model prog w) A (assign target env v) (fun _ s₃ => wpAny (model prog w) A (execs body env) (TEnd h₀ L I oI S s Q (Turns prog w A h₀ L env target body s Q P S k (i + 1))) E' s₃) E' { s with heap := h, toks := tk }) :
    Turns prog w A h₀ L env target body s Q P S (k + 1) i m news := h
theorem turns_loop {target : Expr} {body : List Stmt} {I : Addr} {fp : List Addr} {n : Nat} {P : Nat → Value → Prop} {St : Nat → Heap → Prop} {S : List (Addr × Obj) → Prop} {m : Str → Option Value} {news : List (Addr × Obj)}
    (W : Walks prog w A I fp [I] n P St) (hIo : ∀ i h, St i h → ∃ o, h.get? I = some o)
    (hSt : ∀ i h h' o nw, St i h → h.get? I = some o → h'.get? I = some o → (∀ b o, h₀.get? b = some o → h'.get? b = some o) → News h₀ L h' nw → S nw → St i h')
    (F : Fr h₀ L s.heap m) (N : News h₀ L s.heap news) (hst : St 0 s.heap) (hIL : L ≠ I) (hI₀ : h₀.get? I = none) (off : ∀ p ∈ news, p.1 ≠ I) (hS : S news)
    (T : Turns prog w A h₀ L env target body s Q P S n 0 m news)
    (ht : ∀ v, letOwnedTupleGo target (.ref I) v = pure () := by intro _; rfl) :
    codeAny (model prog w) A (.forLoop target (.ref I) body [] env) (fun r s' => match r with | .ok f => Q f s' | .error e => cameBackBy (model prog w) A env E e s') s := by
  refine for_loop W hIo hSt (fun i m news => Turns prog w A h₀ L env target body s Q P S (n - i) i m news) F N hst hIL hI₀ off hS T ?_ ?_ ht
  · intro i v m₁ news₁ oI h tk E' hi hP hJ off' hS' F' N'
    obtain ⟨k, hk⟩ : ∃ k, n - i = k + 1 := ⟨n - i - 1, by omega⟩
    rw [hk] at hJ
    rw [show n - (i + 1) = k by omega]
    exact hJ v _ _ _ _ _ hP F' N' (allNe_of off')
  · intro m₁ news₁ h tk hJ F' N'
    rw [Nat.sub_self] at hJ
    exact hJ _ _ F' N'
/-- for x in range(..), turn by turn -/
theorem turns_range {target : Expr} {body : List Stmt} {r : Addr} {a b : Int} {t u v : Tok} {n : Nat} {m : Str → Option Value} {news : List (Addr × Obj)}
    (hh : A.handled = none) (hr : IsRange s.heap r a b 1 t u v) (hsm : Builtin.Range.small a b 1 = true) (hn : Builtin.Range.rangeSize a b 1 = ((n : Nat) : Int))
    (F : Fr h₀ L s.heap m) (N : News h₀ L s.heap news)
    (T : ∀ h, Turns prog w A h₀ L env target body { s with heap := h } Q (fun i v => ∃ t, v = .int (a + (i : Int)) t) (fun _ => True) n 0 m news)
    (ht : ∀ I v, letOwnedTupleGo target (.ref I) v = pure () := by intro _ _; rfl) :
    wpAny (model prog w) A (pyIter (.ref r)) (fun it s₂ => codeAny (model prog w) A (.forLoop target it body [] env) (fun r s' => match r with | .ok f => Q f s' | .error e => cameBackBy (model prog w) A env E e s') s₂) E s := by
  refine wpAny_pyIter_range hr hsm ?_
  have up : ∀ b o, s.heap.get? b = some o → (s.heap.push { cls := .type "range_iterator", data := .fields #[rawInt a, rawInt (Builtin.Range.rangeSize a b 1), rawInt 1] }).get? b = some o := fun b o e => Heap.get?_push_of_some _ e
  exact turns_loop (range_walks hh a n) (fun i h st => ⟨_, st⟩) range_st (F.keeps fun _ _ e => Heap.get?_push_of_some _ e) (N.grown fun _ _ e => Heap.get?_push_of_some _ e)
    (by show IsRangeIter _ _ _ _ _; rw [hn]; simpa using Heap.get?_push_size _ rfl) (Nat.ne_of_lt F.ns.lt) (next_is_new F) (fun p hp => Nat.ne_of_lt (Heap.lt_size (N p hp).1)) trivial (T _) (fun v => ht _ v)
/-- a list of the ledger -/
def LstAt (ax : Addr) (its : Array Value) (news : List (Addr × Obj)) : Prop := ∃ k, (ax, ({ cls := .type "list", data := .seq its k } : Obj)) ∈ news
theorem LstAt.list {h₀ h : Heap} {L ax : Addr} {its : Array Value} {news : List (Addr × Obj)} (x : LstAt ax its news) (N : News h₀ L h news) : h.IsList ax its :=
  let ⟨k, hm⟩ := x; ⟨_, N.get hm, rfl, k, rfl⟩
theorem lst_st {ax I : Addr} {its : Array Value} : ∀ i (h h' : Heap) (o : Obj) (nw : List (Addr × Obj)), (h.IsListIter I ax i ∧ h.IsList ax its) → h.get? I = some o → h'.get? I = some o → (∀ b o, h₀.get? b = some o → h'.get? b = some o) → News h₀ L h' nw → LstAt ax its nw → (h'.IsListIter I ax i ∧ h'.IsList ax its) :=
  fun i h h' o nw st e e' k N S => ⟨by obtain ⟨o', q, r⟩ := st.1; rw [e] at q; cases q; exact ⟨o, e', r⟩, S.list N⟩
theorem turns_list {target : Expr} {body : List Stmt} {ax : Addr} {its : Array Value} {k : Nat} {m : Str → Option Value} {news : List (Addr × Obj)}
    (hh : A.handled = none) (hm : (ax, ({ cls := .type "list", data := .seq its k } : Obj)) ∈ news)
    (F : Fr h₀ L s.heap m) (N : News h₀ L s.heap news)
    (T : ∀ h, Turns prog w A h₀ L env target body { s with heap := h } Q (fun i v => its[i]? = some v) (LstAt ax its) its.size 0 m news)
    (ht : ∀ I v, letOwnedTupleGo target (.ref I) v = pure () := by intro _ _; rfl) :
    wpAny (model prog w) A (pyIter (.ref ax)) (fun it s₂ => codeAny (model prog w) A (.forLoop target it body [] env) (fun r s' => match r with | .ok f => Q f s' | .error e => cameBackBy (model prog w) A env E e s') s₂) E s := by
  have hl : s.heap.IsList ax its := LstAt.list ⟨_, hm⟩ N
  have hlt : ax < s.heap.objs.size := Heap.lt_size (N _ hm).1
  refine wpAny_pyIter_list hl ?_
  have up : ∀ b o, s.heap.get? b = some o → (s.heap.push { cls := .type "list_iterator", data := .fields #[.ref ax, .int 0 0] }).get? b = some o := fun b o e => Heap.get?_push_of_some _ e
  exact turns_loop (Walks.list hh s.heap.objs.size ax (Nat.ne_of_lt hlt) its) (fun i h st => by obtain ⟨o, e, _⟩ := st.1; exact ⟨o, e⟩) lst_st (F.keeps up) (N.grown up)
    ⟨⟨_, Heap.get?_push_size _ rfl, rfl, rfl⟩, hl.push _⟩ (Nat.ne_of_lt F.ns.lt) (next_is_new F) (fun p hp => Nat.ne_of_lt (Heap.lt_size (N p hp).1)) ⟨_, hm⟩ (T _) (fun v => ht _ v)
end
end Mine
end
/-! part L4 -/
section
open PySem PySem.W PyProof.Rows PyProof.Rows.LCg
set_option linter.unusedVariables false
namespace Mine
section
variable {prog : Program} {w : World} {A : Around} {E : Value → Shared → Prop} {s : Shared} {Q : Flow → Shared → Prop} {env : Env} {h₀ : Heap} {L : Addr}
/-- a turn's end where the frame's own map stays -/
def MEnd (h₀ : Heap) (L I : Addr) (oI : Obj) (S : List (Addr × Obj) → Prop) (m : Str → Option Value) (J : List (Addr × Obj) → Prop) (s₁ : Shared) (Q : Flow → Shared → Prop) (f : Flow) (s₃ : Shared) : Prop :=
  ForEnd h₀ L I oI S (fun m₁ news => m₁ = m ∧ J news) s₁ Q f s₃
theorem MEnd.next {I : Addr} {oI : Obj} {S : List (Addr × Obj) → Prop} {J : List (Addr × Obj) → Prop} {h : Heap} {tk : Nat} {m : Str → Option Value} {all : List (Addr × Obj)} (F : Fr h₀ L h m) (N : News h₀ L h all) (news : List (Addr × Obj))
    (sub : ∀ p ∈ (I, oI) :: news, p ∈ all) (off : ∀ p ∈ news, p.1 ≠ I) (hS : S news) (hJ : J news) : MEnd h₀ L I oI S m J s Q .next { s with heap := h, toks := tk } :=
  ForEnd.next F N news sub off hS ⟨rfl, hJ⟩
theorem for_rangeM {target : Expr} {body : List Stmt} {r : Addr} {a b : Int} {t u v : Tok} {n : Nat} {m : Str → Option Value} {news : List (Addr × Obj)}
    (J : Nat → List (Addr × Obj) → Prop)
    (hh : A.handled = none) (hr : IsRange s.heap r a b 1 t u v) (hsm : Builtin.Range.small a b 1 = true) (hn : Builtin.Range.rangeSize a b 1 = ((n : Nat) : Int))
    (F : Fr h₀ L s.heap m) (N : News h₀ L s.heap news) (hJ : J 0 news)
    (turn : ∀ i t I news₁ oI h tk (E' : Value → Shared → Prop), i < n → J i news₁ → AllNe I news₁ → Fr h₀ L h m → News h₀ L h ((I, oI) :: news₁) →
      wpAny (model prog w) A (assign target env (.int (a + (i : Int)) t)) (fun _ s₃ => wpAny (model prog w) A (execs body env) (MEnd h₀ L I oI (fun _ => True) m (J (i + 1)) s Q) E' s₃) E' { s with heap := h, toks := tk })
    (done : ∀ news₁ h tk, J n news₁ → Fr h₀ L h m → News h₀ L h news₁ → Q .next { s with heap := h, toks := tk })
    (ht : ∀ I v, letOwnedTupleGo target (.ref I) v = pure ()) :
    wpAny (model prog w) A (pyIter (.ref r)) (fun it s₂ => codeAny (model prog w) A (.forLoop target it body [] env) (fun r s' => match r with | .ok f => Q f s' | .error e => cameBackBy (model prog w) A env E e s') s₂) E s := by
  refine for_range hh hr hsm hn F N (fun i m₁ news => m₁ = m ∧ J i news) ⟨rfl, hJ⟩ ?_ ?_ ht
  · rintro i t I m₁ news₁ oI h tk E' hi ⟨rfl, hJ⟩ _ off F N
    exact turn i t I news₁ oI h tk E' hi hJ (allNe_of off) F N
  · rintro m₁ news₁ h tk ⟨rfl, hJ⟩ F N
    exact done news₁ h tk hJ F N
theorem for_listM {target : Expr} {body : List Stmt} {ax : Addr} {its : Array Value} {k : Nat} {m : Str → Option Value} {news : List (Addr × Obj)}
    (J : Nat → List (Addr × Obj) → Prop)
    (hh : A.handled = none) (F : Fr h₀ L s.heap m) (N : News h₀ L s.heap news) (hm : (ax, ({ cls := .type "list", data := .seq its k } : Obj)) ∈ news) (hJ : J 0 news)
    (turn : ∀ i v I news₁ oI h tk (E' : Value → Shared → Prop), i < its.size → its[i]? = some v → J i news₁ → AllNe I news₁ → LstAt ax its news₁ → Fr h₀ L h m → News h₀ L h ((I, oI) :: news₁) →
      wpAny (model prog w) A (assign target env v) (fun _ s₃ => wpAny (model prog w) A (execs body env) (MEnd h₀ L I oI (LstAt ax its) m (J (i + 1)) s Q) E' s₃) E' { s with heap := h, toks := tk })
    (done : ∀ news₁ h tk, J its.size news₁ → Fr h₀ L h m → News h₀ L h news₁ → Q .next { s with heap := h, toks := tk })
    (ht : ∀ I v, letOwnedTupleGo target (.ref I) v = pure ()) :
    wpAny (model prog w) A (pyIter (.ref ax)) (fun it s₂ => codeAny (model prog w) A (.forLoop target it body [] env) (fun r s' => match r with | .ok f => Q f s' | .error e => cameBackBy (model prog w) A env E e s') s₂) E s := by
  have hl : s.heap.IsList ax its := LstAt.list ⟨_, hm⟩ N
  have hlt : ax < s.heap.objs.size := Heap.lt_size (N _ hm).1
  refine wpAny_pyIter_list hl ?_
  have up : ∀ b o, s.heap.get? b = some o → (s.heap.push { cls := .type "list_iterator", data := .fields #[.ref ax, .int 0 0] }).get? b = some o := fun b o e => Heap.get?_push_of_some _ e
  refine for_loop (s := { s with heap := _ }) (Walks.list hh s.heap.objs.size ax (Nat.ne_of_lt hlt) its) (fun i h st => by obtain ⟨o, e, _⟩ := st.1; exact ⟨o, e⟩) lst_st (fun i m₁ news => m₁ = m ∧ J i news) (F.keeps up) (N.grown up)
    ⟨⟨_, Heap.get?_push_size _ rfl, rfl, rfl⟩, hl.push _⟩ (Nat.ne_of_lt F.ns.lt) (next_is_new F) (fun p hp => Nat.ne_of_lt (Heap.lt_size (N p hp).1)) ⟨_, hm⟩ ⟨rfl, hJ⟩ ?_ ?_ (fun v => ht _ v)
  · rintro i v m₁ news₁ oI h tk E' hi hP ⟨rfl, hJ⟩ off hS F N
    exact turn i v _ news₁ oI h tk E' hi hP hJ (allNe_of off) hS F N
  · rintro m₁ news₁ h tk ⟨rfl, hJ⟩ F N
    exact done news₁ h tk hJ F N
end
/-- the end of a comprehension's element where the ledger is the same -/
theorem compEnd_same {h₀ : Heap} {L I C D : Addr} {m : Str → Option Value} {s₁ : Shared} {oI oC oD : Obj} {S : List (Addr × Obj) → Prop} {rest : Value → List (Addr × Obj) → Prop} {y : Value} {h' : Heap} {tk : Nat} {news : List (Addr × Obj)}
    (F : Fr h₀ L h' m) (N : News h₀ L h' ((I, oI) :: (C, oC) :: (D, oD) :: news)) (off : Off3 I C D news) (hS : S news) (r : rest y news) :
    CompEnd h₀ L m s₁ I oI C oC D oD S rest y { s₁ with heap := h', toks := tk } := CompEnd.intro F N news (fun _ h => h) off hS r
section
variable {prog : Program} {w : World} {A : Around} {E : Value → Shared → Prop} {s : Shared} {value slice : PySem.Expr} {Q : Value → Shared → Prop}
/-- an item of a list at a place that is reckoned -/
theorem item_at {l : Addr} {its : Array Value} {k : Int} {u : Tok} {v : Value}
    (hl : s.heap.IsList l its) (h0 : 0 ≤ k) (hhi : k < 2 ^ 63) (hx : its[k.toNat]? = some v) (h : Q v s)
    (hs : subscripted slice false (.ref l) (.int k u) = operate [.ref l, .int k u] (getItem (.ref l) (.int k u)) := by with_unfolding_all rfl) :
    wpAny (model prog w) A (subscriptTail value slice (.ref l) (.int k u)) Q E s :=
  tail_any hl.typeIs slot_list_getitem.lookup (wpAny_getItem_list hl h0 hhi hx h) hs
/-- three ints in a list -/
def Three (f : Nat → Int) (its : Array Value) : Prop := its.size = 3 ∧ ∀ c, c < 3 → ∃ t, its[c]? = some (.int (f c) t)
theorem Three.mk3 {f : Nat → Int} {x y z : Int} {t u v : Tok} (h0 : x = f 0) (h1 : y = f 1) (h2 : z = f 2) : Three f #[.int x t, .int y u, .int z v] := by
  subst h0 h1 h2
  refine ⟨rfl, fun c hc => ?_⟩
  match c, hc with
  | 0, _ => exact ⟨_, rfl⟩
  | 1, _ => exact ⟨_, rfl⟩
  | 2, _ => exact ⟨_, rfl⟩
theorem three_of {α : Type} {l : List α} (h : l.length = 3) : ∃ a b c, l = [a, b, c] := by
  cases l with
  | nil => cases h
  | cons a l => cases l with
    | nil => cases h
    | cons b l => cases l with
      | nil => cases h
      | cons c l => cases l with
        | nil => exact ⟨a, b, c, rfl⟩
        | cons d l => cases h
theorem Three.get {f : Nat → Int} {its : Array Value} (h : Three f its) : ∃ t u v, its = #[.int (f 0) t, .int (f 1) u, .int (f 2) v] := by
  obtain ⟨hs, h⟩ := h
  obtain ⟨t, h0⟩ := h 0 (by decide)
  obtain ⟨u, h1⟩ := h 1 (by decide)
  obtain ⟨v, h2⟩ := h 2 (by decide)
  refine ⟨t, u, v, ?_⟩
  apply Array.ext'
  have hl : its.toList.length = 3 := by simpa using hs
  rw [← Array.getElem?_toList] at h0 h1 h2
  obtain ⟨a, b, c, hh⟩ := three_of hl
  rw [hh] at h0 h1 h2
  rw [hh]
  cases h0; cases h1; cases h2
  rfl
theorem item_three {f : Nat → Int} {l : Addr} {its : Array Value} {k : Int} {u : Tok}
    (hl : s.heap.IsList l its) (h3 : Three f its) (h0 : 0 ≤ k) (hhi : k < 3) (h : ∀ t, Q (.int (f k.toNat) t) s)
    (hs : subscripted slice false (.ref l) (.int k u) = operate [.ref l, .int k u] (getItem (.ref l) (.int k u)) := by with_unfolding_all rfl) :
    wpAny (model prog w) A (subscriptTail value slice (.ref l) (.int k u)) Q E s := by
  obtain ⟨t, e⟩ := h3.2 k.toNat (by omega)
  exact item_at hl h0 (by omega) e (h t) hs
end
end Mine
end
/-! part V5 -/
section
open PySem PySem.W PyProof.Rows
namespace Mine
abbrev APs : Array UInt8 := #[65, 66, 67, 68, 69, 70, 71, 72, 73, 74, 75, 76, 77, 78, 79, 80]
/-- the figures to the base 16, highest first -/
def dg (n : Nat) : List Nat := if n = 0 then [] else dg (n / 16) ++ [n % 16]
termination_by n
decreasing_by omega
theorem dg_zero : dg 0 = [] := by rw [dg, if_pos rfl]
theorem dg_pos {n : Nat} (h : n ≠ 0) : dg n = dg (n / 16) ++ [n % 16] := by rw [dg, if_neg h]
def letter (d : Nat) : UInt8 := UInt8.ofNat (65 + d)
theorem ap_cut : ∀ r : Nat, r < 16 → KBy.picked APs (some (r : Int)) (some ((r : Int) + 1)) = #[letter r] := by
  intro r hr
  rw [KBc.picked_eq]
  have e1 : clipAt 16 (r : Int) = r := by rw [clipAt_nat]; omega
  have e2 : clipAt 16 ((r : Int) + 1) = r + 1 := by
    have := clipAt_nat 16 (r + 1)
    rw [show ((r + 1 : Nat) : Int) = (r : Int) + 1 by omega] at this
    rw [this]; omega
  show (List.take (clipAt 16 ((r : Int) + 1) - clipAt 16 (r : Int)) (List.drop (clipAt 16 (r : Int)) APs.toList)).toArray = _
  rw [e1, e2]
  clear e1 e2
  revert r
  decide
section
variable {prog : Program} {w : World} {A : Around} {E : Value → Shared → Prop} {s : Shared} {value slice : PySem.Expr} {t t1 t2 : Tok} {h₀ : Heap} {L : Addr} {m : PySem.Str → Option Value} {news : List (Addr × Obj)} {Q : Value → Shared → Prop}
theorem ap_slice {n : Nat} (hF : Fr h₀ L s.heap m) (hN : News h₀ L s.heap news)
    (h : ∀ h' t' k, Fr h₀ L h' m → News h₀ L h' news → Q (.bytes #[letter (n % 16)] t') { s with heap := h', toks := k })
    (hs : subscripted slice false (.bytes APs t) (.ref s.heap.objs.size) = operate [.ref s.heap.objs.size, .bytes APs t] (getItem (.bytes APs t) (.ref s.heap.objs.size)))
    (ht : ∀ r, letTemporaryGo value (.bytes APs t) r = pure ()) :
    wpAny (model prog w) A (subscriptTail value slice (.bytes APs t) (.ref s.heap.objs.size)) Q E { s with heap := s.heap.push { cls := .type "slice", data := .fields #[.int (Int.fmod (n : Int) 16) t1, .int (Int.fmod (n : Int) 16 + 1) t2, .none] } } := by
  refine KBc.slice_K hF hN rfl (.int _ _) (.int _ _) (by decide) (fun h' t' k F' N' _ => ?_) hs ht
  have e : Int.fmod (n : Int) 16 = ((n % 16 : Nat) : Int) := by rw [Int.fmod_eq_emod_of_nonneg _ (by decide)]; omega
  rw [e, ap_cut _ (by omega)]
  exact h h' t' k F' N'
end
local macro_rules | `(tactic| ktr_step) => `(tactic| repeat' (first | ((fail_if_success (with_reducible first | show wpAny _ _ (exec (Stmt.While ..) ..) .. | show wpAny _ _ (exec (Stmt.For ..) ..) .. | show TurnEnd ..)); ktr_rel)))
local macro_rules | `(tactic| walk_at "subscriptTail") => `(tactic| (k_here; (with_reducible show wpAny _ _ (subscriptTail _ (Expr.Slice _ _ none _) (Value.bytes _ _) (Value.ref _)) _ _ _); (with_reducible rename Fr _ _ _ _ => F'); (with_reducible rename News _ _ _ _ => N'); (refine ap_slice (s := ⟨_, _, _, _, _⟩) F' N' ?_ (by with_unfolding_all rfl) (by intro _; with_unfolding_all rfl)); intro _ _ _ _ _))
local macro_rules | `(tactic| walk_at "binaryOp Add bytes bytes") => `(tactic| (k_here; (with_reducible show wpAny _ _ (binaryOp Operator.Add (Value.bytes _ _) (Value.bytes _ _)) _ _ _); (refine KBy.add_bytes (by assumption) ?_); intro _ _))
def IAP (num : Nat) (g : Heap) (L : Addr) (n : Nat) (h : Heap) : Prop :=
  ∃ m t1 t2 t3 val, Fr g L h m ∧ News g L h [] ∧ m (Str.ofString "num") = some (.int (n : Int) t1) ∧ m (Str.ofString "val") = some (.bytes val t2) ∧ m (Str.ofString "AP") = some (.bytes APs t3) ∧
    (dg n).map letter ++ val.toList = (dg num).map letter ∧ ∃ k, n < 16 ^ k ∧ val.size + k ≤ 100
theorem IAP.mk {num n : Nat} {x : Int} {g h : Heap} {L : Addr} {m : Str → Option Value} {t1 t2 t3 : Tok} {val : Array UInt8} (F : Fr g L h m) (N : News g L h []) (e1 : m (Str.ofString "num") = some (.int x t1)) (e2 : m (Str.ofString "val") = some (.bytes val t2)) (e3 : m (Str.ofString "AP") = some (.bytes APs t3))
    (hx : x = (n : Int)) (hv : (dg n).map letter ++ val.toList = (dg num).map letter) (hk : ∃ k, n < 16 ^ k ∧ val.size + k ≤ 100) : IAP num g L n h := by
  subst hx
  exact ⟨m, t1, t2, t3, val, F, N, e1, e2, e3, hv, hk⟩
theorem IAP.turn {num n : Nat} {g h : Heap} {L : Addr} {m : Str → Option Value} {t1 t2 t3 : Tok} {val : Array UInt8} {news : List (Addr × Obj)} (F : Fr g L h m) (N : News g L h news) (e1 : m (Str.ofString "num") = some (.int (Int.fdiv (n : Int) 16) t1)) (e2 : m (Str.ofString "val") = some (.bytes (#[letter (n % 16)] ++ val) t2)) (e3 : m (Str.ofString "AP") = some (.bytes APs t3))
    (hn : n ≠ 0) (hv : (dg n).map letter ++ val.toList = (dg num).map letter) {k : Nat} (hk : n < 16 ^ k) (hs : val.size + k ≤ 100) : IAP num g L (n / 16) h := by
  refine IAP.mk F News.nil e1 e2 e3 ?_ ?_ ?_
  · rw [Int.fdiv_eq_ediv_of_nonneg _ (by decide)]; omega
  · rw [← hv, dg_pos hn]; simp
  · cases k with
    | zero => simp at hk; omega
    | succ k => exact ⟨k, by rw [Nat.pow_succ] at hk; omega, by simp; omega⟩
set_option maxRecDepth 100000 in
set_option maxHeartbeats 8000000 in
theorem c_ap (w : World) (mean : ExcName → Option Value) (mg mb : Str → Option Value) (num : Int) (t1 : Tok) (hn : num.natAbs < 16 ^ 100) :
    Contract w mean mg mb 21 1 [.int num t1] (fun _ => True) (fun _ _ v => ∃ b t, v = .bytes b t ∧ b.toList = (dg num.natAbs).map letter) := by
  delta Contract Pg KK LS
  k_fill
  intro dp un gd cn cs a ccd cl outer A₀ base h₀ L m s Q E B F X T hk hd hu hpre hret
  w_top off
  k_dflt ktr_enter
  ktr_step
  have hnum : (if num < 0 then -num else num) = (num.natAbs : Int) := by split <;> omega
  refine while_ruleF (by k_asm) (IAP num.natAbs) num.natAbs ?_ ?_
  · exact IAP.mk (by k_asm) (by k_asm) rfl rfl rfl hnum (by simp) ⟨100, hn, by simp⟩
  · rintro n h tk E' ⟨m1, t1, t2, t3, val, F2, N2, e1, e2, e3, hv, k, hk, hs⟩
    replace F2 := Fr_see F2 e3
    replace F2 := Fr_see F2 ((if_neg (by decide)).trans e2)
    replace F2 := Fr_see F2 ((if_neg (by decide)).trans ((if_neg (by decide)).trans e1))
    have hsz : #[letter (n % 16)].size + val.size ≤ 16777216 := by simp; omega
    ktr_step
    · exact TurnEnd.next (k := n / 16) (by omega) (IAP.turn (by k_asm) (by k_asm) rfl rfl rfl (by omega) hv hk hs)
    · have hz : n = 0 := by omega
      subst hz
      rw [dg_zero] at hv
      exact hret _ _ _ ⟨_, _, rfl, by simpa using hv⟩ (keepOf (by assumption) (by assumption))
end Mine
end
/-! part V6 -/
local macro_rules | `(tactic| k_all) => `(tactic| assumption)
local macro_rules | `(tactic| walk_at "exec For Name Call cons nil") => `(tactic| (k_here; k_dflt ((refine' PySem.wpAny_For ?k1 ?k2); (case k2 => intro _; rfl))))
local macro_rules | `(tactic| walk_at "eval ListComp") => `(tactic| (k_here; (with_reducible show PySem.wpAny _ _ (PySem.eval (PySem.Expr.ListComp _ [⟨PySem.Expr.Name _ _, PySem.Expr.Call _ _ _ _, [], 0⟩] _ _) _) _ _ _); k_dflt (refine PyProof.Rows.LCg.ListComp_U (F₀ := by k_asm) (by rfl) (by decide) (by rfl) (by decide) (by rfl) ?_)))
local macro_rules | `(tactic| walk_at "CompSrc") => `(tactic| (k_here; k_dflt (refine PyProof.Rows.LCg.CompSrc.range (n := 3) (by rfl) (by k_asm) (by k_asm) (by with_reducible assumption) (by decide) (by rfl) (by exact Nat.le_of_ble_eq_true rfl) ?_); intro g'; lcg_lit))
section
open PySem PySem.W PyProof.Rows
namespace Mine
/-! the sixteen shades -/
def kd (j c : Nat) : Int := (([[1, 0, 0], [2, 0, 0], [2, 1, 0], [1, 1, 0], [1, 2, 0]] : List (List Int)).getD j []).getD c 0
def turnOf (i c : Nat) : Nat := (c + 3 - i) % 3
def shT (q c : Nat) : Int := if q = 0 then 0 else kd ((q - 1) % 5) (turnOf ((q - 1) / 5) c)
def OutShades (h h' : Heap) (v : Value) : Prop := ∃ D its n, v = .ref D ∧ h.get? D = none ∧ h'.get? D = some (W.listOf its n) ∧ its.size = 16 ∧
  ∀ q, q < 16 → ∃ a row n, its[q]? = some (.ref a) ∧ h.get? a = none ∧ h'.get? a = some ({ cls := .type "list", data := .seq row n } : Obj) ∧ Three (shT q) row
/-- the rows that the list holds so far -/
def Rows (k : Nat) (its : Array Value) (rest : List (Addr × Obj)) : Prop := its.size = k ∧ ∀ q, q < k → ∃ a row n, its[q]? = some (.ref a) ∧ (a, ({ cls := .type "list", data := .seq row n } : Obj)) ∈ rest ∧ Three (shT q) row
theorem Rows.push {k : Nat} {its : Array Value} {rest rest' : List (Addr × Obj)} {a : Addr} {row : Array Value} {n : Nat} (R : Rows k its rest) (sub : ∀ p ∈ rest, p ∈ rest')
    (hm : (a, ({ cls := .type "list", data := .seq row n } : Obj)) ∈ rest') (h3 : Three (shT k) row) : Rows (k + 1) (its.push (.ref a)) rest' := by
  obtain ⟨hs, h⟩ := R
  refine ⟨by simp [hs], fun q hq => ?_⟩
  by_cases e : q = k
  · subst e
    exact ⟨a, row, n, by simp [← hs], hm, h3⟩
  · obtain ⟨a', row', n', h1, h2, h4⟩ := h q (by omega)
    refine ⟨a', row', n', ?_, sub _ h2, h4⟩
    rw [Array.getElem?_push]
    rw [if_neg (by omega)]
    exact h1
def Kinds (its : Array Value) (rest : List (Addr × Obj)) : Prop := its.size = 5 ∧ ∀ j, j < 5 → ∃ a row n, its[j]? = some (.ref a) ∧ (a, ({ cls := .type "list", data := .seq row n } : Obj)) ∈ rest ∧ Three (kd j) row
/-- the ledger: D the list, ck and ct the cells -/
structure Off (d : Addr) (rest : List (Addr × Obj)) : Prop where
  off : ∀ p ∈ rest, p.1 ≠ d
abbrev cellOf (o : Obj) (v : Option Value) : Prop := o.data = .cell v
def J1 (D ck ct : Addr) (i : Nat) (news : List (Addr × Obj)) : Prop :=
  ∃ its n oD ok ot rest vk vt, news = (D, oD) :: (ck, ok) :: (ct, ot) :: rest ∧ oD = W.listOf its n ∧ cellOf ok vk ∧ cellOf ot vt ∧ Rows (1 + 5 * i) its rest ∧ (∀ p ∈ rest, p.1 ≠ D) ∧ (∀ p ∈ rest, p.1 ≠ ck) ∧ (∀ p ∈ rest, p.1 ≠ ct)
def J2 (D ck ct dp : Addr) (oI : Obj) (I : Addr) (ks : Array Value) (i : Nat) (vi : Value) (j : Nat) (news : List (Addr × Obj)) : Prop :=
  ∃ its n oD ok ot rest vk, news = (I, oI) :: (D, oD) :: (ck, ok) :: (ct, ot) :: (dp, W.listOf ks 0) :: rest ∧ oD = W.listOf its n ∧ cellOf ok vk ∧ cellOf ot (some vi) ∧ Rows (1 + 5 * i + j) its rest ∧ Kinds ks rest ∧ (∀ p ∈ rest, p.1 ≠ D) ∧ (∀ p ∈ rest, p.1 ≠ ck) ∧ (∀ p ∈ rest, p.1 ≠ I ∧ p.1 ≠ ct)
theorem J1.el {D ck ct : Addr} {i : Nat} {news : List (Addr × Obj)} {C : Prop} (h : J1 D ck ct i news)
    (k : ∀ its n ok ot rest vk vt, news = (D, W.listOf its n) :: (ck, ok) :: (ct, ot) :: rest → cellOf ok vk → cellOf ot vt → Rows (1 + 5 * i) its rest → (∀ p ∈ rest, p.1 ≠ D) → (∀ p ∈ rest, p.1 ≠ ck) → (∀ p ∈ rest, p.1 ≠ ct) → C) : C := by
  refine el_E8 h fun its n oD ok ot rest vk vt h => el_a8 h ?_
  intro e e2 dk dt R r1 r2 r3
  subst e2
  exact k its n ok ot rest vk vt e dk dt R r1 r2 r3
theorem J2.el {D ck ct dp : Addr} {oI : Obj} {I : Addr} {ks : Array Value} {i : Nat} {vi : Value} {j : Nat} {news : List (Addr × Obj)} {C : Prop} (h : J2 D ck ct dp oI I ks i vi j news)
    (k : ∀ its n ok ot rest vk, news = (I, oI) :: (D, W.listOf its n) :: (ck, ok) :: (ct, ot) :: (dp, W.listOf ks 0) :: rest → cellOf ok vk → cellOf ot (some vi) → Rows (1 + 5 * i + j) its rest → Kinds ks rest → (∀ p ∈ rest, p.1 ≠ D) → (∀ p ∈ rest, p.1 ≠ ck) → (∀ p ∈ rest, p.1 ≠ I ∧ p.1 ≠ ct) → C) : C := by
  refine el_E7 h fun its n oD ok ot rest vk h => el_a9 h ?_
  intro e e2 dk dt R hK r1 r2 r3
  subst e2
  exact k its n ok ot rest vk e dk dt R hK r1 r2 r3
theorem start1 {h₀ h : Heap} {L D l0 ck ct : Addr} {row : Array Value} {ok ot : Obj} {vk vt : Option Value} {k1 k2 : Nat} (N : News h₀ L h [(D, W.listOf #[.ref l0] k1), (l0, W.listOf row k2), (ck, ok), (ct, ot)]) (dk : cellOf ok vk) (dt : cellOf ot vt) (h3 : Three (shT 0) row)
    (a1 : @Ne Nat l0 D) (a2 : @Ne Nat l0 ck) (a3 : @Ne Nat l0 ct) : ∃ news, News h₀ L h news ∧ J1 D ck ct 0 news := by
  refine ⟨[(D, W.listOf #[.ref l0] k1), (ck, ok), (ct, ot), (l0, W.listOf row k2)], fun p hp => N p ((subC (.head _) (subC (.tail _ (.tail _ (.head _))) (subC (.tail _ (.tail _ (.tail _ (.head _)))) (subC (.tail _ (.head _)) subN)))) p hp), _, _, _, _, _, [(l0, W.listOf row k2)], _, _, rfl, rfl, dk, dt, ⟨rfl, fun q hq => ?_⟩, neC a1 neNil, neC a2 neNil, neC a3 neNil⟩
  obtain rfl : q = 0 := by omega
  exact ⟨l0, row, _, rfl, .head _, h3⟩
theorem rows_le {k : Nat} {its : Array Value} {rest : List (Addr × Obj)} (R : Rows k its rest) (hk : k ≤ 100) : its.size ≤ sizeLine := by
  rw [R.1]; exact Nat.le_trans hk (Nat.le_of_ble_eq_true rfl)
structure Ap (D ck ct dp I : Addr) : Prop where
  cD : @Ne Nat ck D
  tD : @Ne Nat ct D
  dD : @Ne Nat dp D
  iD : @Ne Nat I D
  ic : @Ne Nat I ck
theorem Ap.of {h₀ h : Heap} {L D ck ct dp k0 k1 k2 k3 k4 I : Addr} {oD o0 o1 o2 o3 o4 od ok ot oI : Obj} {rest : List (Addr × Obj)}
    (_ : News h₀ L h ((dp, od) :: (k4, o4) :: (k3, o3) :: (k2, o2) :: (k1, o1) :: (k0, o0) :: (I, oI) :: (D, oD) :: (ck, ok) :: (ct, ot) :: rest))
    (a1 : @Ne Nat ck D) (a2 : @Ne Nat ct D) (a3 : @Ne Nat dp D) (a4 : @Ne Nat I D) (a5 : @Ne Nat I ck) : Ap D ck ct dp I := ⟨a1, a2, a3, a4, a5⟩
theorem append2 {prog : Program} {w : World} {A : Around} {E : Value → Shared → Prop} {s : Shared} {h₀ : Heap} {L D ck ct dp D' I I2 : Addr} {its ks : Array Value} {ok ot oI oI2 oD' : Obj} {n k : Nat} {rest : List (Addr × Obj)} {m : Str → Option Value} {Q : Value → Shared → Prop}
    (F : Fr h₀ L s.heap m) (N : News h₀ L s.heap ((D', oD') :: (I2, oI2) :: (I, oI) :: (D, W.listOf its n) :: (ck, ok) :: (ct, ot) :: (dp, W.listOf ks 0) :: rest))
    (o1 : LCg.Off1 D' ((I2, oI2) :: (I, oI) :: (D, W.listOf its n) :: (ck, ok) :: (ct, ot) :: (dp, W.listOf ks 0) :: rest))
    (off : AllNe I2 ((I, oI) :: (D, W.listOf its n) :: (ck, ok) :: (ct, ot) :: (dp, W.listOf ks 0) :: rest)) (ap : Ap D ck ct dp I) (r1 : ∀ p ∈ rest, p.1 ≠ D) (R : Rows k its rest) (hk : k ≤ 100)
    (h : ∀ h', Fr h₀ L h' m → News h₀ L h' ((D', oD') :: (I2, oI2) :: (I, oI) :: (D, W.listOf (its.push (.ref D')) (n + 1)) :: (ck, ok) :: (ct, ot) :: (dp, W.listOf ks 0) :: rest) → @Ne Nat D' D → @Ne Nat D' ck → (@Ne Nat D' I ∧ @Ne Nat D' ct) → @Ne Nat D' I2 →
      AllNe I2 ((I, oI) :: (D, W.listOf (its.push (.ref D')) (n + 1)) :: (ck, ok) :: (ct, ot) :: (dp, W.listOf ks 0) :: rest) → Q .none { s with heap := h' }) :
    wpAny (model prog w) A (call (.builtin "list.append") [.ref D, .ref D']) Q E s := by
  obtain ⟨o2, o3, o4, o5, o6, o7, o8⟩ := o1
  obtain ⟨f1, f2, f3, f4, f5, f6⟩ := off
  refine append_K F N (Upd.tail (Ne.symm o4) (Upd.tail (Ne.symm f2) (Upd.tail ap.iD (Upd.head ?_)))) (fun h' F' N' => h h' F' N' (Ne.symm o4) (Ne.symm o5) ⟨Ne.symm o3, Ne.symm o6⟩ (Ne.symm o2) ⟨f1, f2, f3, f4, f5, f6⟩) (rows_le R hk)
  exact neC ap.cD (neC ap.tD (neC ap.dD r1))
theorem all5 {P : Addr → Prop} {k0 k1 k2 k3 k4 : Addr} {o0 o1 o2 o3 o4 : Obj} {rest : List (Addr × Obj)} (h : ∀ x ∈ [k0, k1, k2, k3, k4], P x) (hr : ∀ p ∈ rest, P p.1) : ∀ p ∈ (k0, o0) :: (k1, o1) :: (k2, o2) :: (k3, o3) :: (k4, o4) :: rest, P p.1 :=
  List.forall_mem_cons.mpr ⟨h k0 (.head _), List.forall_mem_cons.mpr ⟨h k1 (.tail _ (.head _)), List.forall_mem_cons.mpr ⟨h k2 (.tail _ (.tail _ (.head _))), List.forall_mem_cons.mpr ⟨h k3 (.tail _ (.tail _ (.tail _ (.head _)))), List.forall_mem_cons.mpr ⟨h k4 (.tail _ (.tail _ (.tail _ (.tail _ (.head _))))), hr⟩⟩⟩⟩⟩
theorem start2 {h₀ h : Heap} {L D ck ct dp k0 k1 k2 k3 k4 I : Addr} {its q0 q1 q2 q3 q4 : Array Value} {ok ot oI : Obj} {vk : Option Value} {vi : Value} {n c0 c1 c2 c3 c4 i : Nat} {rest : List (Addr × Obj)}
    (N : News h₀ L h ((dp, W.listOf #[.ref k0, .ref k1, .ref k2, .ref k3, .ref k4] 0) :: (k4, W.listOf q4 c4) :: (k3, W.listOf q3 c3) :: (k2, W.listOf q2 c2) :: (k1, W.listOf q1 c1) :: (k0, W.listOf q0 c0) :: (I, oI) :: (D, W.listOf its n) :: (ck, ok) :: (ct, ot) :: rest))
    (dk : cellOf ok vk) (dt : cellOf ot (some vi)) (R : Rows (1 + 5 * i) its rest) (h0 : Three (kd 0) q0) (h1 : Three (kd 1) q1) (h2 : Three (kd 2) q2) (h3 : Three (kd 3) q3) (h4 : Three (kd 4) q4)
    (r1 : ∀ p ∈ rest, p.1 ≠ D) (r2 : ∀ p ∈ rest, p.1 ≠ ck) (r3 : ∀ p ∈ rest, p.1 ≠ I) (r4 : ∀ p ∈ rest, p.1 ≠ ct)
    (n1 : ∀ x ∈ [k0, k1, k2, k3, k4], x ≠ D ∧ x ≠ ck ∧ x ≠ I ∧ x ≠ ct) :
    ∃ news, News h₀ L h news ∧ (dp, ({ cls := .type "list", data := .seq #[.ref k0, .ref k1, .ref k2, .ref k3, .ref k4] 0 } : Obj)) ∈ news ∧ J2 D ck ct dp oI I #[.ref k0, .ref k1, .ref k2, .ref k3, .ref k4] i vi 0 news := by
  refine ⟨(I, oI) :: (D, W.listOf its n) :: (ck, ok) :: (ct, ot) :: (dp, W.listOf #[.ref k0, .ref k1, .ref k2, .ref k3, .ref k4] 0) :: (k0, W.listOf q0 c0) :: (k1, W.listOf q1 c1) :: (k2, W.listOf q2 c2) :: (k3, W.listOf q3 c3) :: (k4, W.listOf q4 c4) :: rest, fun p hp => N p ((subC (.tail _ (.tail _ (.tail _ (.tail _ (.tail _ (.tail _ (.head _))))))) (subC (.tail _ (.tail _ (.tail _ (.tail _ (.tail _ (.tail _ (.tail _ (.head _)))))))) (subC (.tail _ (.tail _ (.tail _ (.tail _ (.tail _ (.tail _ (.tail _ (.tail _ (.head _))))))))) (subC (.tail _ (.tail _ (.tail _ (.tail _ (.tail _ (.tail _ (.tail _ (.tail _ (.tail _ (.head _)))))))))) (subC (.head _) (subC (.tail _ (.tail _ (.tail _ (.tail _ (.tail _ (.head _)))))) (subC (.tail _ (.tail _ (.tail _ (.tail _ (.head _))))) (subC (.tail _ (.tail _ (.tail _ (.head _)))) (subC (.tail _ (.tail _ (.head _))) (subC (.tail _ (.head _)) (fun p hp => .tail _ (.tail _ (.tail _ (.tail _ (.tail _ (.tail _ (.tail _ (.tail _ (.tail _ (.tail _ (hp))))))))))))))))))))) p hp), ?_, its, n, _, ok, ot,
    (k0, W.listOf q0 c0) :: (k1, W.listOf q1 c1) :: (k2, W.listOf q2 c2) :: (k3, W.listOf q3 c3) :: (k4, W.listOf q4 c4) :: rest, vk, rfl, rfl, dk, dt, ?_, ?_, ?_, ?_, ?_⟩
  · exact .tail _ (.tail _ (.tail _ (.tail _ (.head _))))
  · exact ⟨R.1, fun q hq => let ⟨a, row, n, e, hm, h3⟩ := R.2 q hq; ⟨a, row, n, e, .tail _ (.tail _ (.tail _ (.tail _ (.tail _ hm)))), h3⟩⟩
  · refine ⟨rfl, fun j hj => ?_⟩
    match j, hj with
    | 0, _ => exact ⟨_, _, _, rfl, .head _, h0⟩
    | 1, _ => exact ⟨_, _, _, rfl, .tail _ (.head _), h1⟩
    | 2, _ => exact ⟨_, _, _, rfl, .tail _ (.tail _ (.head _)), h2⟩
    | 3, _ => exact ⟨_, _, _, rfl, .tail _ (.tail _ (.tail _ (.head _))), h3⟩
    | 4, _ => exact ⟨_, _, _, rfl, .tail _ (.tail _ (.tail _ (.tail _ (.head _)))), h4⟩
  · exact all5 (fun x hx => (n1 x hx).1) r1
  · exact all5 (fun x hx => (n1 x hx).2.1) r2
  · exact all5 (P := fun x => x ≠ I ∧ x ≠ ct) (fun x hx => (n1 x hx).2.2) (fun p hp => ⟨r3 p hp, r4 p hp⟩)
theorem fmod3 (x : Int) : 0 ≤ Int.fmod x 3 ∧ Int.fmod x 3 < 3 := by
  rw [Int.fmod_eq_emod_of_nonneg _ (by decide)]; omega
theorem outShades {g h h' : Heap} {L D ck ct : Addr} {its : Array Value} {n k : Nat} {ok ot : Obj} {rest : List (Addr × Obj)} (e : g = h) (N : News g L h' ((D, W.listOf its n) :: (ck, ok) :: (ct, ot) :: rest)) (R : Rows k its rest) (hk : k = 16 := by rfl) : OutShades h h' (.ref D) := by
  subst e hk
  refine ⟨D, its, n, rfl, (N _ (.head _)).2.2, (N _ (.head _)).1, R.1, fun q hq => ?_⟩
  obtain ⟨a, row, n, e, hm, h3⟩ := R.2 q hq
  have := N _ (.tail _ (.tail _ (.tail _ hm)))
  exact ⟨a, row, n, e, this.2.2, this.1, h3⟩
theorem shT_ix : ∀ i : Nat, i < 3 → ∀ j : Nat, j < 5 → ¬1 + 5 * i + j = 0 ∧ (1 + 5 * i + j - 1) % 5 = j ∧ (1 + 5 * i + j - 1) / 5 = i := by decide
theorem shT_at {i j : Nat} (hi : i < 3) (hj : j < 5) (c : Nat) : shT (1 + 5 * i + j) c = kd j (turnOf i c) := by
  unfold shT
  obtain ⟨h1, h2, h3⟩ := shT_ix i hi j hj
  rw [if_neg h1, h2, h3]
theorem turn_fm : ∀ i : Nat, i < 3 → ∀ c : Nat, c < 3 → (Int.fmod (0 + (c : Int) - (0 + (i : Int))) 3).toNat = turnOf i c := by decide
theorem shT_val {i j : Nat} (hi : i < 3) (hj : j < 5) (c : Nat) (hc : c < 3 := by decide) : kd j (Int.fmod (0 + (c : Int) - (0 + (i : Int))) 3).toNat = shT (1 + 5 * i + j) c := by
  rw [shT_at hi hj]
  congr 1
  exact turn_fm i hi c hc
theorem end1 {h₀ h : Heap} {L D ck ct dp I : Addr} {its ks : Array Value} {ok ot oI : Obj} {vk vt : Option Value} {n i tk k : Nat} {rest : List (Addr × Obj)} {m : Str → Option Value} {s : Shared} {Q : Flow → Shared → Prop}
    (F : Fr h₀ L h m) (N : News h₀ L h ((I, oI) :: (D, W.listOf its n) :: (ck, ok) :: (ct, ot) :: (dp, W.listOf ks 0) :: rest))
    (dk : cellOf ok vk) (dt : cellOf ot vt) (R : Rows k its rest) (r1 : ∀ p ∈ rest, p.1 ≠ D) (r2 : ∀ p ∈ rest, p.1 ≠ ck) (r3 : ∀ p ∈ rest, p.1 ≠ I ∧ p.1 ≠ ct) (ap : Ap D ck ct dp I) (it : @Ne Nat I ct) (hk : k = 1 + 5 * (i + 1)) :
    MEnd h₀ L I oI (fun _ => True) m (J1 D ck ct (i + 1)) s Q .next { s with heap := h, toks := tk } := by
  exact MEnd.next F N ((D, W.listOf its n) :: (ck, ok) :: (ct, ot) :: rest) (subC (.head _) (subC (.tail _ (.head _)) (subC (.tail _ (.tail _ (.head _))) (subC (.tail _ (.tail _ (.tail _ (.head _)))) (fun p hp => .tail _ (.tail _ (.tail _ (.tail _ (.tail _ (hp)))))))))) (neC (Ne.symm ap.iD) (neC (Ne.symm ap.ic) (neC (Ne.symm it) fun p hp => (r3 p hp).1))) trivial
    ⟨its, n, _, ok, ot, rest, vk, vt, rfl, rfl, dk, dt, hk ▸ R, r1, r2, fun p hp => (r3 p hp).2⟩
theorem end2 {h₀ h : Heap} {L D ck ct dp D' I I2 : Addr} {its ks row : Array Value} {ok ot oI oI2 : Obj} {vk : Option Value} {vi : Value} {n n2 i j tk : Nat} {rest : List (Addr × Obj)} {m : Str → Option Value} {s : Shared} {Q : Flow → Shared → Prop}
    (F : Fr h₀ L h m) (N : News h₀ L h ((D', { cls := .type "list", data := .seq row n2 }) :: (I2, oI2) :: (I, oI) :: (D, W.listOf (its.push (.ref D')) (n + 1)) :: (ck, ok) :: (ct, ot) :: (dp, W.listOf ks 0) :: rest))
    (dk : cellOf ok vk) (dt : cellOf ot (some vi)) (R : Rows (1 + 5 * i + j) its rest) (hK : Kinds ks rest) (h3 : Three (shT (1 + 5 * i + j)) row)
    (r1 : ∀ p ∈ rest, p.1 ≠ D) (r2 : ∀ p ∈ rest, p.1 ≠ ck) (r3 : ∀ p ∈ rest, p.1 ≠ I ∧ p.1 ≠ ct) (a1 : @Ne Nat D' D) (a2 : @Ne Nat D' ck) (a3 : @Ne Nat D' I ∧ @Ne Nat D' ct) (a4 : @Ne Nat D' I2)
    (off : AllNe I2 ((I, oI) :: (D, W.listOf (its.push (.ref D')) (n + 1)) :: (ck, ok) :: (ct, ot) :: (dp, W.listOf ks 0) :: rest)) :
    MEnd h₀ L I2 oI2 (LstAt dp ks) m (J2 D ck ct dp oI I ks i vi (j + 1)) s Q .next { s with heap := h, toks := tk } := by
  refine MEnd.next F N ((I, oI) :: (D, W.listOf (its.push (.ref D')) (n + 1)) :: (ck, ok) :: (ct, ot) :: (dp, W.listOf ks 0) :: (D', { cls := .type "list", data := .seq row n2 }) :: rest) ?_ ?_ ?_ ?_
  · exact (subC (.tail _ (.head _)) (subC (.tail _ (.tail _ (.head _))) (subC (.tail _ (.tail _ (.tail _ (.head _)))) (subC (.tail _ (.tail _ (.tail _ (.tail _ (.head _))))) (subC (.tail _ (.tail _ (.tail _ (.tail _ (.tail _ (.head _)))))) (subC (.tail _ (.tail _ (.tail _ (.tail _ (.tail _ (.tail _ (.head _))))))) (subC (.head _) (fun p hp => .tail _ (.tail _ (.tail _ (.tail _ (.tail _ (.tail _ (.tail _ (hp)))))))))))))))
  · obtain ⟨b1, b2, b3, b4, b5, b6⟩ := off
    exact neC b1 (neC b2 (neC b3 (neC b4 (neC b5 (neC a4 b6.off)))))
  · exact ⟨0, .tail _ (.tail _ (.tail _ (.tail _ (.head _))))⟩
  · refine ⟨its.push (.ref D'), n + 1, _, ok, ot, _, vk, rfl, rfl, dk, dt, R.push (fun _ h => .tail _ h) (.head _) h3, ⟨hK.1, fun q hq => let ⟨a, row, n, e, hm, h3⟩ := hK.2 q hq; ⟨a, row, n, e, .tail _ hm, h3⟩⟩, neC a1 r1, neC a2 r2, List.forall_mem_cons.mpr ⟨a3, r3⟩⟩
local macro_rules | `(tactic| ktr_step) => `(tactic| repeat' (first | ((fail_if_success (with_reducible first | show wpAny _ _ (pyIter _) (fun it s₂ => codeAny _ _ (Code.forLoop _ it _ [] _) _ s₂) _ _ | show wpAny _ _ (call (Value.builtin _) [Value.ref _, Value.ref _]) .. | show MEnd ..)); ktr_rel)))
local macro_rules | `(tactic| k_mem) => `(tactic| assumption)
local macro_rules | `(tactic| k_mem) => `(tactic| (refine' List.Mem.tail _ (List.Mem.tail _ (List.Mem.tail _ (List.Mem.tail _ (List.Mem.tail _ (List.Mem.tail _ (List.Mem.tail _ (List.Mem.tail _ (List.Mem.tail _ ?_)))))))); assumption))
local macro_rules | `(tactic| walk_at "exec For Name List cons nil") => `(tactic| (k_here; k_dflt ((refine' wpAny_For ?k1 ?k2); (case k2 => intro _; rfl))))
local macro_rules | `(tactic| walk_at "CompRest") => `(tactic| (with_unfolding_all ((refine LCg.CompRest.succ ?_; intro v' I' oI' C' oC' D' m' h' tk' E' hv' hC' hx' F' N' off' ne'; (obtain ⟨t9', hv9'⟩ := hv'; subst hv9')))))
local macro_rules | `(tactic| walk_at "CompEnd") => `(tactic| k_dflt (refine compEnd_same (by k_asm) (by k_asm) (by assumption) (by exact True.intro) ?_))
local macro_rules | `(tactic| walk_at "subscriptTail Name BinOp ref int") => `(tactic| (k_here; k_dflt ((refine' item_three (News.isList (by k_asm) (by k_mem)) (by assumption) ?k1 ?k2 ?_); (case k1 => exact (fmod3 _).1); (case k2 => exact (fmod3 _).2); intro t')))
local macro_rules | `(tactic| walk_at "FinE") => `(tactic| k_dflt ((unfold LCg.FinE); intro D' h' tk' F' N' o1'; (try simp only [List.nil_append, List.cons_append] at N'); (try dsimp only)))
set_option maxRecDepth 100000 in
set_option maxHeartbeats 8000000 in
theorem c_shades (w : World) (mean : ExcName → Option Value) (mg mb : Str → Option Value) :
    Contract w mean mg mb 47 1 [] (fun _ => True) OutShades := by
  delta Contract Pg KK LS
  k_fill
  intro dp un gd cn cs a ccd cl outer A₀ base h₀ L m s Q E B F X T hk hd hu hpre hret
  w_top off
  k_dflt tb_start
  with_reducible rename _ = s.heap => eG
  ktr_step
  with_reducible rename News _ _ _ _ => N'
  obtain ⟨news, N1, hJ⟩ := start1 N' (by assumption) (by assumption) (Three.mk3 rfl rfl rfl) (by k_ne) (by k_ne) (by k_ne)
  refine for_rangeM (n := 3) (J1 _ _ _) rfl (by with_reducible assumption) (by decide) rfl (by k_asm) N1 hJ ?turn ?done (by intro _ _; rfl)
  · clear N1 hJ
    intro i t I news₁ oI h tk E' hi hJ off' F' N'
    refine hJ.el ?_; clear hJ
    intro its n ok ot rest vk vt e9 dk dt R r1 r2 r3
    subst e9
    dsimp only [AllNe] at off'
    ktr_step
    with_reducible rename News _ _ _ _ => N2
    obtain ⟨news, N3, hm, hJ⟩ := start2 (i := i) N2 dk (by assumption) R (Three.mk3 rfl rfl rfl) (Three.mk3 rfl rfl rfl) (Three.mk3 rfl rfl rfl) (Three.mk3 rfl rfl rfl) (Three.mk3 rfl rfl rfl) r1 r2 off'.2.2.2.off r3
      (by simp only [List.mem_cons, List.not_mem_nil, or_false, forall_eq_or_imp, forall_eq]; (refine ⟨⟨?_, ?_, ?_, ?_⟩, ⟨?_, ?_, ?_, ?_⟩, ⟨?_, ?_, ?_, ?_⟩, ⟨?_, ?_, ?_, ?_⟩, ⟨?_, ?_, ?_, ?_⟩⟩ <;> k_ne))
    have ap := Ap.of N2 (by k_ne) (by k_ne) (by k_ne) (by k_ne) (by k_ne)
    refine for_listM (J2 _ _ _ _ _ _ _ i _) rfl (by k_asm) N3 hm hJ ?turn2 ?done2 (by intro _ _; rfl)
    · clear N3 hJ hm N2 R r1 r2 r3 dk dt
      intro j v I2 news₂ oI2 h tk E' hj hv hJ off2 _ F' N'
      refine hJ.el ?_; clear hJ
      intro its n ok ot rest vk e9 dk dt R hK r1 r2 r3
      subst e9
      refine el_E3 (hK.2 j hj) ?_
      intro kj row nr e hm h3
      have e7 := Option.some.inj (hv.symm.trans e)
      clear hv e
      subst e7
      have off3 := off2
      dsimp only [AllNe] at off2
      have hj5 : j < 5 := hj
      ktr_step
      with_reducible rename LCg.Off1 _ _ => o1
      refine append2 (by k_asm) (by k_asm) o1 off3 ap r1 R (by omega) ?_
      intro h' F' N' z1 z2 z3 z4 offE
      ktr_step
      exact end2 (by k_asm) (by k_asm) (by assumption) dt R hK (Three.mk3 (shT_val hi hj5 0) (shT_val hi hj5 1) (shT_val hi hj5 2)) r1 r2 r3 z1 z2 z3 z4 offE
    · clear N3 hJ hm N2 R r1 r2 r3 dk dt
      intro news₂ h tk hJ F' N'
      refine hJ.el ?_; clear hJ
      intro its n ok ot rest vk e9 dk dt R hK r1 r2 r3
      subst e9
      ktr_step
      exact end1 (by k_asm) (by k_asm) dk dt R r1 r2 r3 ap (Ne.symm off'.2.2.1) (by show 1 + 5 * i + 5 = _; omega)
  · intro news₁ h tk hJ F' N'
    refine hJ.el ?_; clear hJ
    intro its n ok ot rest vk vt e9 dk dt R r1 r2 r3
    subst e9
    ktr_step
    exact hret _ _ _ (outShades eG N' R) (keepOf eG F')
end Mine
end
/-! part FL1 -/
section
open PySem PySem.Float64
set_option linter.unusedVariables false
set_option exponentiation.threshold 3000
namespace Mine
/-- the scale of val -/
def SN : Nat := 2 ^ 1074
noncomputable def S : Rat := (SN : Rat)
theorem SN_pos : 0 < SN := Nat.two_pow_pos _
theorem S_pos : 0 < S := Rat.natCast_pos.mpr SN_pos
def IsF (x : UInt64) : Prop := ∃ a m e, decode x = .fin a m e
noncomputable def qv (x : UInt64) : Rat := (val x : Rat) / S
theorem qv_mul (x : UInt64) : qv x * S = (val x : Rat) := by
  have := S_pos
  unfold qv; rw [Rat.div_mul_cancel]; grind
theorem V_grid : ∀ (k n : Nat), n ≤ 2 ^ 53 → ∃ t, V t = n * 2 ^ k
  | 0, n, h => ⟨_, V_at (k := 0) (q := n) h (.inr rfl)⟩
  | k + 1, n, h => by
    by_cases hn : 2 ^ 52 ≤ n
    · exact ⟨_, V_at h (.inl hn)⟩
    · obtain ⟨t, e⟩ := V_grid k (2 * n) (by omega)
      exact ⟨t, by rw [e, Nat.pow_succ]; ac_rfl⟩
theorem pow_lt_aux {k : Nat} (hk : k ≤ 1900) : 2 ^ (53 + k) * 2 < (2 ^ 54 - 1) * 2 ^ 2045 := by
  have h1 : (2 : Nat) ^ (53 + k) ≤ 2 ^ 1953 := Nat.pow_le_pow_right (by decide) (by omega)
  have h2 : (2 : Nat) ^ 1953 * 2 < (2 ^ 54 - 1) * 2 ^ 2045 := by decide +kernel
  exact Nat.lt_of_le_of_lt (Nat.mul_le_mul_right 2 h1) h2
theorem lt_aux {D W B K : Nat} (h1 : D * B ≤ 2 * W) (hB : K * 2 < B) (hW : W ≤ D * K) (hD : 0 < D) : False := by
  have h2 := Nat.mul_lt_mul_of_pos_left hB hD
  rw [← Nat.mul_assoc] at h2
  omega
theorem right_fin {r : UInt64} {neg : Bool} {W D k : Nat} (h : Right r neg W D) (hD : 0 < D) (hk : k ≤ 1900) (hW : W ≤ D * 2 ^ (53 + k)) :
    ∃ t, IsF r ∧ val r = sgn neg (V t) ∧ ∀ t', dist W (D * V t) ≤ dist W (D * V t') := by
  obtain ⟨t, rfl, ht, hinf, hn⟩ := h
  have hne : t ≠ infMag := by
    intro e
    exact lt_aux (hinf.mp e) (pow_lt_aux hk) hW hD
  have hlt : t < infMag := by omega
  obtain ⟨m, e, hd, _⟩ := decode_pack neg hlt
  exact ⟨t, ⟨_, _, _, hd⟩, val_pack neg hlt, fun t' => (hn hlt t').1⟩
theorem right_near {r : UInt64} {neg : Bool} {W D k : Nat} (h : Right r neg W D) (hD : 0 < D) (hk : k ≤ 1900) (hW : W ≤ D * 2 ^ (53 + k)) :
    IsF r ∧ ∃ v : Nat, val r = sgn neg v ∧ dist W (D * v) ≤ D * 2 ^ k := by
  obtain ⟨t, hf, hv, hn⟩ := right_fin h hD hk hW
  refine ⟨hf, V t, hv, ?_⟩
  have hp : 0 < D * 2 ^ k := Nat.mul_pos hD (Nat.two_pow_pos _)
  have hq : W / (D * 2 ^ k) ≤ 2 ^ 53 := by
    refine Nat.div_le_of_le_mul ?_
    rw [Nat.mul_assoc, ← Nat.pow_add, Nat.add_comm k 53]; exact hW
  obtain ⟨t', ht'⟩ := V_grid k (W / (D * 2 ^ k)) hq
  refine Nat.le_trans (hn t') ?_
  rw [ht']
  have e1 : D * (W / (D * 2 ^ k) * 2 ^ k) = D * 2 ^ k * (W / (D * 2 ^ k)) := by ac_rfl
  rw [e1]
  have h1 := Nat.div_add_mod W (D * 2 ^ k)
  have h2 := Nat.mod_lt W hp
  unfold dist
  omega
theorem right_exact {r : UInt64} {neg : Bool} {W D k n : Nat} (h : Right r neg W D) (hD : 0 < D) (hk : k ≤ 1900) (hn : n ≤ 2 ^ 53) (hW : W = D * (n * 2 ^ k)) :
    IsF r ∧ val r = sgn neg (n * 2 ^ k) := by
  obtain ⟨t, hf, hv, hd⟩ := right_fin h hD hk (by rw [hW, Nat.pow_add]; exact Nat.mul_le_mul_left _ (Nat.mul_le_mul_right _ hn))
  obtain ⟨t', ht'⟩ := V_grid k n hn
  have := hd t'
  rw [ht', ← hW] at this
  have h0 : W = D * V t := by unfold dist at this; omega
  rw [hW] at h0
  have := Nat.eq_of_mul_eq_mul_left hD h0
  rw [hv, ← this]; exact ⟨hf, rfl⟩
/-- x is v up to e -/
structure Nr (x v e : Rat) : Prop where
  lo : -e ≤ x - v
  hi : x - v ≤ e
theorem natCast_two_pow (k : Nat) : (((2 ^ k : Nat)) : Rat) = (2 : Rat) ^ k := Rat.natCast_pow 2 k
theorem pow_pos (k : Nat) : (0 : Rat) < (2 : Rat) ^ k := by rw [← natCast_two_pow]; exact Rat.natCast_pos.mpr (Nat.two_pow_pos _)
theorem two_pow_add (a b : Nat) : (2 : Rat) ^ (a + b) = 2 ^ a * 2 ^ b := by rw [← natCast_two_pow, Nat.pow_add, Rat.natCast_mul, natCast_two_pow, natCast_two_pow]
theorem S_eq {k j : Nat} (h : k + j = 1074) : S = (2 : Rat) ^ k * (2 : Rat) ^ j := by
  unfold S SN; rw [← h, Nat.pow_add, Rat.natCast_mul, natCast_two_pow, natCast_two_pow]
theorem sgn_rat (neg : Bool) (a b : Nat) (c : Rat) (h1 : (a : Rat) - b ≤ c) (h2 : (b : Rat) - a ≤ c) : -c ≤ ((sgn neg a : Int) : Rat) - ((sgn neg b : Int) : Rat) ∧ ((sgn neg a : Int) : Rat) - ((sgn neg b : Int) : Rat) ≤ c := by
  unfold sgn
  cases neg <;> simp [Rat.intCast_neg, Rat.intCast_natCast] <;> constructor <;> grind
theorem nat_rat {a b : Nat} (h : a ≤ b) : (a : Rat) ≤ (b : Rat) := Rat.natCast_le_natCast.mpr h
theorem abs_rat {E : Rat} {W D : Nat} {neg : Bool} (hE : E * S * (D : Rat) = ((sgn neg W : Int) : Rat)) {M : Rat} (hM : E ≤ M) (hM2 : -M ≤ E) : (W : Rat) ≤ M * S * D := by
  have hs := S_pos
  have hD : (0 : Rat) ≤ D := Rat.natCast_nonneg
  have h0 : 0 ≤ S * (D : Rat) := Rat.mul_nonneg (by grind) hD
  have h1 := Rat.mul_le_mul_of_nonneg_right hM h0
  have h2 := Rat.mul_le_mul_of_nonneg_right hM2 h0
  unfold sgn at hE
  cases neg <;> simp [Rat.intCast_neg, Rat.intCast_natCast] at hE <;> grind
/-- a rightly rounded result, in real terms: up to 2 ^ j, the error is at most 2 ^ j / 2 ^ 53 -/
theorem near_of_right {r : UInt64} {neg : Bool} {W D : Nat} (h : Right r neg W D) (hD : 0 < D) {E : Rat} (hE : E * S * (D : Rat) = ((sgn neg W : Int) : Rat))
    (j : Nat) (hj : j ≤ 53) (hM : E ≤ 2 ^ j) (hM2 : -2 ^ j ≤ E) : IsF r ∧ Nr (qv r) E (2 ^ j / 2 ^ 53) := by
  have hs := S_pos
  have hDr : (0 : Rat) < D := Rat.natCast_pos.mpr hD
  have hW : W ≤ D * 2 ^ (53 + (1021 + j)) := by
    refine Rat.natCast_le_natCast.mp (Rat.le_trans (abs_rat hE hM hM2) ?_)
    rw [Rat.natCast_mul, natCast_two_pow, S_eq (k := 1074) (j := 0) rfl, show 53 + (1021 + j) = 1074 + j by omega, two_pow_add]
    grind
  obtain ⟨hf, v, hv, hd⟩ := right_near h hD (k := 1021 + j) (by omega) hW
  refine ⟨hf, ?_⟩
  have h1 : W - D * v ≤ D * 2 ^ (1021 + j) := by unfold dist at hd; omega
  have h2 : D * v - W ≤ D * 2 ^ (1021 + j) := by unfold dist at hd; omega
  have g1 : (W : Rat) - ((D * v : Nat) : Rat) ≤ ((D * 2 ^ (1021 + j) : Nat) : Rat) := by
    have : W ≤ D * 2 ^ (1021 + j) + D * v := by omega
    have := nat_rat this
    rw [Rat.natCast_add] at this
    grind
  have g2 : ((D * v : Nat) : Rat) - (W : Rat) ≤ ((D * 2 ^ (1021 + j) : Nat) : Rat) := by
    have : D * v ≤ D * 2 ^ (1021 + j) + W := by omega
    have := nat_rat this
    rw [Rat.natCast_add] at this
    grind
  have g3 := sgn_rat neg (D * v) W _ g2 g1
  rw [← hE] at g3
  have g4 : ((sgn neg (D * v) : Int) : Rat) = qv r * S * D := by
    rw [Nat.mul_comm, sgn_mul, Rat.intCast_mul, qv_mul, hv]; rfl
  rw [g4, Rat.natCast_mul, natCast_two_pow] at g3
  have e2 : (2 : Rat) ^ (1021 + j) = (2 ^ j / 2 ^ 53) * S := by
    rw [S_eq (k := 1021) (j := 53) rfl, two_pow_add]
    have := pow_pos 53
    have h5 : (2 : Rat) ^ j / 2 ^ 53 * (2 ^ 1021 * 2 ^ 53) = (2 ^ j / 2 ^ 53 * 2 ^ 53) * 2 ^ 1021 := by grind
    rw [h5, Rat.div_mul_cancel (by grind)]
    grind
  rw [e2] at g3
  have hSD : 0 < S * (D : Rat) := Rat.mul_pos hs hDr
  generalize (2 : Rat) ^ j / 2 ^ 53 = e at *
  constructor
  · refine Rat.le_of_mul_le_mul_right (c := S * (D : Rat)) ?_ hSD
    have := g3.1
    grind
  · refine Rat.le_of_mul_le_mul_right (c := S * (D : Rat)) ?_ hSD
    have := g3.2
    grind
end Mine
end
/-! part FL2 -/
section
open PySem PySem.Float64
set_option linter.unusedVariables false
set_option exponentiation.threshold 3000
namespace Mine
theorem sgn_self (z : Int) : sgn (decide (z < 0)) z.natAbs = z := by
  unfold sgn; by_cases h : z < 0 <;> simp [h] <;> omega
theorem isF_zero (b : Bool) : IsF (zero b) := by
  obtain ⟨m, e, h, _⟩ := decode_pack b (t := 0) (by decide)
  exact ⟨_, _, _, h⟩
theorem val_zero (b : Bool) : val (zero b) = 0 := by
  have := val_pack b (t := 0) (by decide)
  rw [V_zero] at this
  rw [show zero b = pack b 0 from by unfold zero; rfl, this]; unfold sgn; cases b <;> rfl
theorem qv_zero (b : Bool) : qv (zero b) = 0 := by unfold qv; rw [val_zero]; grind
theorem qv_eq_of {x : UInt64} {E : Rat} (h : E * S = (val x : Rat)) : qv x = E := by
  have hs := S_pos
  have := qv_mul x
  rw [← h] at this
  have h0 : (qv x - E) * S = 0 := by grind
  rcases Rat.mul_eq_zero.mp h0 with h | h <;> grind
theorem nr_self {x e : Rat} (he : 0 ≤ e) : Nr x x e := ⟨by grind, by grind⟩
theorem eps_nonneg (j : Nat) : (0 : Rat) ≤ 2 ^ j / 2 ^ 53 := by
  have h1 := pow_pos j
  have h2 := pow_pos 53
  rw [Rat.div_def]
  exact Rat.mul_nonneg (by grind) (by have := Rat.inv_pos.mpr h2; grind)
theorem nr_zero {x : UInt64} {b : Bool} {E : Rat} (hx : x = zero b) (hE : E = 0) (j : Nat) : IsF x ∧ Nr (qv x) E (2 ^ j / 2 ^ 53) := by
  subst hx hE
  rw [qv_zero]
  exact ⟨isF_zero b, nr_self (eps_nonneg j)⟩
theorem sum_val (x y : UInt64) : (qv x + qv y) * S = ((val x + val y : Int) : Rat) := by
  rw [Rat.intCast_add, ← qv_mul, ← qv_mul]; grind
theorem dif_val (x y : UInt64) : (qv x - qv y) * S = ((val x - val y : Int) : Rat) := by
  rw [Rat.intCast_sub, ← qv_mul, ← qv_mul]; grind
theorem zero_of_mul {E : Rat} (h : E * S = 0) : E = 0 := by
  have hs := S_pos
  rcases Rat.mul_eq_zero.mp h with h | h
  · exact h
  · grind
theorem add_near {x y : UInt64} (hx : IsF x) (hy : IsF y) (j : Nat) (hj : j ≤ 53) (h1 : qv x + qv y ≤ 2 ^ j) (h2 : -2 ^ j ≤ qv x + qv y) :
    IsF (add x y) ∧ Nr (qv (add x y)) (qv x + qv y) (2 ^ j / 2 ^ 53) := by
  obtain ⟨a, m, e, hx⟩ := hx
  obtain ⟨b, k, f, hy⟩ := hy
  obtain ⟨hz, hr⟩ := add_right hx hy
  have hs := sum_val x y
  by_cases h : val x + val y = 0
  · exact nr_zero (hz h) (zero_of_mul (by rw [hs, h]; rfl)) j
  · refine near_of_right (hr h) (by decide) ?_ j hj h1 h2
    rw [sgn_self, hs]; grind
theorem sub_near {x y : UInt64} (hx : IsF x) (hy : IsF y) (j : Nat) (hj : j ≤ 53) (h1 : qv x - qv y ≤ 2 ^ j) (h2 : -2 ^ j ≤ qv x - qv y) :
    IsF (sub x y) ∧ Nr (qv (sub x y)) (qv x - qv y) (2 ^ j / 2 ^ 53) := by
  obtain ⟨a, m, e, hx⟩ := hx
  obtain ⟨b, k, f, hy⟩ := hy
  obtain ⟨hz, hr⟩ := sub_right hx hy
  have hs := dif_val x y
  by_cases h : val x - val y = 0
  · exact nr_zero (hz h) (zero_of_mul (by rw [hs, h]; rfl)) j
  · refine near_of_right (hr h) (by decide) ?_ j hj h1 h2
    rw [sgn_self, hs]; grind
theorem sgn_prod (a b : Bool) (m k : Nat) : sgn (a != b) (m * k) = sgn a m * sgn b k := by
  unfold sgn; cases a <;> cases b <;> simp [Int.neg_mul, Int.mul_neg]
theorem val_sgn {x : UInt64} {a : Bool} {m : Nat} {e : Int} (h : decode x = .fin a m e) : val x = sgn a (val x).natAbs := by
  rw [val_eq h, sgn_natAbs]
theorem SN_eq : SN = 2 ^ 1074 := rfl
theorem S_eq1 : S = ((2 ^ 1074 : Nat) : Rat) := rfl
theorem mul_near {x y : UInt64} (hx : IsF x) (hy : IsF y) (j : Nat) (hj : j ≤ 53) (h1 : qv x * qv y ≤ 2 ^ j) (h2 : -2 ^ j ≤ qv x * qv y) :
    IsF (mul x y) ∧ Nr (qv (mul x y)) (qv x * qv y) (2 ^ j / 2 ^ 53) := by
  obtain ⟨a, m, e, hx⟩ := hx
  obtain ⟨b, k, f, hy⟩ := hy
  have hr := mul_right hx hy
  refine near_of_right hr (Nat.two_pow_pos _) ?_ j hj h1 h2
  rw [sgn_prod, ← val_sgn hx, ← val_sgn hy, Rat.intCast_mul, ← qv_mul, ← qv_mul, ← S_eq1]
  grind
theorem natAbs_cast (z : Int) : ((z.natAbs : Nat) : Rat) = if z < 0 then -(z : Rat) else (z : Rat) := by
  rw [← Rat.intCast_natCast]
  split
  · rw [← Rat.intCast_neg]; congr 1; omega
  · congr 1; omega
theorem div_near {x y : UInt64} (hx : IsF x) (hy : IsF y) (hne : qv y ≠ 0) (j : Nat) (hj : j ≤ 53) {E : Rat} (hE : E * qv y = qv x) (h1 : E ≤ 2 ^ j) (h2 : -2 ^ j ≤ E) :
    IsF (div x y) ∧ Nr (qv (div x y)) E (2 ^ j / 2 ^ 53) := by
  obtain ⟨a, m, e, hx⟩ := hx
  obtain ⟨b, k, f, hy⟩ := hy
  have hv : val y ≠ 0 := by
    intro h
    apply hne
    exact zero_of_mul (by rw [qv_mul, h]; rfl)
  have hk : k ≠ 0 := by
    rintro rfl
    apply hv
    rw [val_eq hy]; unfold sgn; cases b <;> simp
  have hr := div_right hx hy hk
  refine near_of_right hr (by omega) ?_ j hj h1 h2
  have e1 : sgn (a != b) ((val x).natAbs * 2 ^ 1074) = sgn b 1 * (val x * ((2 ^ 1074 : Nat) : Int)) := by
    rw [Nat.mul_comm, ← Nat.one_mul (2 ^ 1074 * (val x).natAbs), show (a != b) = (b != a) by cases a <;> cases b <;> rfl, sgn_prod, Nat.mul_comm (2 ^ 1074), sgn_mul, ← val_sgn hx]
  have e2 : ((val y).natAbs : Rat) = ((sgn b 1 : Int) : Rat) * (val y : Rat) := by
    have h3 := val_sgn hy
    generalize (val y).natAbs = n at h3
    rw [h3]
    unfold sgn
    cases b <;> simp [Rat.intCast_neg, Rat.intCast_natCast] <;> grind
  rw [e1, e2, Rat.intCast_mul, Rat.intCast_mul, Rat.intCast_natCast, ← S_eq1, ← qv_mul, ← qv_mul, ← hE]
  grind
theorem frac_near {neg : Bool} {n d : Nat} (hd : 0 < d) (j : Nat) (hj : j ≤ 53) {E : Rat} (hE : E * (d : Rat) = ((sgn neg n : Int) : Rat)) (h1 : E ≤ 2 ^ j) (h2 : -2 ^ j ≤ E) :
    IsF (ofFrac neg n d) ∧ Nr (qv (ofFrac neg n d)) E (2 ^ j / 2 ^ 53) := by
  refine near_of_right (ofFrac_right (W := n * 2 ^ 1074) (D := d) hd rfl hd) hd ?_ j hj h1 h2
  rw [sgn_mul, Rat.intCast_mul, Rat.intCast_natCast, ← S_eq1, ← hE]
  grind
/-! exact results: whole 2^-35ths -/
theorem exact_of {r : UInt64} {neg : Bool} {W D : Nat} (h : Right r neg W D) (hD : 0 < D) {n : Int} (hn : n.natAbs ≤ 2 ^ 53) (hW : sgn neg W = (D : Int) * (n * 2 ^ 1039)) : IsF r ∧ qv r * 2 ^ 35 = n := by
  have hWn : W = D * (n.natAbs * 2 ^ 1039) := by
    have := congrArg Int.natAbs hW
    rw [sgn_natAbs, Int.natAbs_mul, Int.natAbs_mul, Int.natAbs_natCast, Int.natAbs_pow] at this
    exact this
  obtain ⟨hf, hv⟩ := right_exact h hD (k := 1039) (by omega) hn hWn
  refine ⟨hf, ?_⟩
  have hs := S_pos
  have e1 : (D : Int) * val r = (D : Int) * (n * 2 ^ 1039) := by
    rw [← hW, hv, hWn, Int.mul_comm, ← sgn_mul, Nat.mul_comm]
  have hDi : (D : Int) ≠ 0 := by omega
  have e2 : val r = n * 2 ^ 1039 := Int.eq_of_mul_eq_mul_left hDi e1
  have e3 := qv_mul r
  rw [e2, Rat.intCast_mul, Rat.intCast_pow, S_eq (k := 35) (j := 1039) rfl] at e3
  have := pow_pos 1039
  have h0 : (qv r * 2 ^ 35 - n) * (2 : Rat) ^ 1039 = 0 := by
    rw [show ((2 : Int) : Rat) = 2 from rfl] at e3
    grind
  rcases Rat.mul_eq_zero.mp h0 with h | h <;> grind
theorem grid_val {x : UInt64} {n : Int} (h : qv x * 2 ^ 35 = n) : val x = n * 2 ^ 1039 := by
  have e3 := qv_mul x
  refine Rat.intCast_inj.mp ?_
  rw [← e3, Rat.intCast_mul, Rat.intCast_pow, S_eq (k := 35) (j := 1039) rfl, ← h, show ((2 : Int) : Rat) = 2 from rfl]
  grind
theorem zero_grid {x : UInt64} {b : Bool} {n : Int} (hx : x = zero b) (h : n = 0) : IsF x ∧ qv x * 2 ^ 35 = n := by
  subst hx h; rw [qv_zero]; exact ⟨isF_zero b, by simp⟩
theorem pow_ne_int (k : Nat) : (2 : Int) ^ k ≠ 0 := by
  have := Int.pow_pos (n := 2) (m := k) (by decide)
  omega
theorem add_exact {x y : UInt64} {p q : Int} (hx : IsF x) (hy : IsF y) (ex : qv x * 2 ^ 35 = p) (ey : qv y * 2 ^ 35 = q) (hb : (p + q).natAbs ≤ 2 ^ 53) :
    IsF (add x y) ∧ qv (add x y) * 2 ^ 35 = (p + q : Int) := by
  obtain ⟨a, m, e, hx⟩ := hx
  obtain ⟨b, k, f, hy⟩ := hy
  obtain ⟨hz, hr⟩ := add_right hx hy
  have hs : val x + val y = (p + q) * 2 ^ 1039 := by rw [grid_val ex, grid_val ey, Int.add_mul]
  by_cases h : val x + val y = 0
  · refine zero_grid (hz h) ?_
    rw [h] at hs
    rcases Int.mul_eq_zero.mp hs.symm with h | h
    · exact h
    · exact absurd h (pow_ne_int _)
  · refine exact_of (hr h) (by decide) hb ?_
    rw [sgn_self, hs, Int.natCast_one, Int.one_mul]
theorem sub_exact {x y : UInt64} {p q : Int} (hx : IsF x) (hy : IsF y) (ex : qv x * 2 ^ 35 = p) (ey : qv y * 2 ^ 35 = q) (hb : (p - q).natAbs ≤ 2 ^ 53) :
    IsF (sub x y) ∧ qv (sub x y) * 2 ^ 35 = (p - q : Int) := by
  obtain ⟨a, m, e, hx⟩ := hx
  obtain ⟨b, k, f, hy⟩ := hy
  obtain ⟨hz, hr⟩ := sub_right hx hy
  have hs : val x - val y = (p - q) * 2 ^ 1039 := by rw [grid_val ex, grid_val ey, Int.sub_mul]
  by_cases h : val x - val y = 0
  · refine zero_grid (hz h) ?_
    rw [h] at hs
    rcases Int.mul_eq_zero.mp hs.symm with h | h
    · exact h
    · exact absurd h (pow_ne_int _)
  · refine exact_of (hr h) (by decide) hb ?_
    rw [sgn_self, hs, Int.natCast_one, Int.one_mul]
theorem frac_exact {n : Int} (hn : n.natAbs ≤ 2 ^ 53) : IsF (ofFrac (decide (n < 0)) n.natAbs (2 ^ 35)) ∧ qv (ofFrac (decide (n < 0)) n.natAbs (2 ^ 35)) * 2 ^ 35 = n := by
  refine exact_of (ofFrac_right (W := n.natAbs * 2 ^ 1039) (D := 1) (Nat.two_pow_pos _) ?_ (by decide)) (by decide) hn ?_
  · rw [Nat.mul_one, Nat.mul_assoc, ← Nat.pow_add]
  · rw [sgn_mul, sgn_self, Int.natCast_one, Int.one_mul, Int.natCast_pow]; rfl
/-! comparisons -/
theorem qv_lt {x y : UInt64} : qv x < qv y ↔ val x < val y := by
  have hs := S_pos
  rw [← Rat.intCast_lt_intCast, ← qv_mul, ← qv_mul, Rat.mul_lt_mul_right hs]
theorem qv_inj {x y : UInt64} : qv x = qv y ↔ val x = val y := by
  constructor
  · intro h; refine Rat.intCast_inj.mp ?_; rw [← qv_mul, ← qv_mul, h]
  · intro h; unfold qv; rw [h]
theorem cmp_is {x y : UInt64} (hx : IsF x) (hy : IsF y) : cmp x y = some (compare (val x) (val y)) := by
  obtain ⟨a, m, e, hx⟩ := hx
  obtain ⟨b, k, f, hy⟩ := hy
  exact cmp_right hx hy
theorem cmp_lt {x y : UInt64} (hx : IsF x) (hy : IsF y) : (cmp x y == some .lt) = true ↔ qv x < qv y := by
  rw [cmp_is hx hy, qv_lt, ← Int.compare_eq_lt]; simp
theorem cmp_eq {x y : UInt64} (hx : IsF x) (hy : IsF y) : (cmp x y == some .eq) = true ↔ qv x = qv y := by
  rw [cmp_is hx hy, qv_inj, ← Int.compare_eq_eq]; simp
theorem cmp_le {x y : UInt64} (hx : IsF x) (hy : IsF y) : (cmp x y == some .lt || cmp x y == some .eq) = true ↔ qv x ≤ qv y := by
  rw [Bool.or_eq_true, cmp_lt hx hy, cmp_eq hx hy]; grind
theorem isFinite_of {x : UInt64} (hx : IsF x) : isFinite x = true := by
  obtain ⟨a, m, e, hx⟩ := hx; unfold isFinite; rw [hx]
theorem isZero_of {x : UInt64} (h : qv x ≠ 0) : isZero x = false := by
  unfold isZero
  split
  · rename_i a e hd
    exfalso; apply h
    exact zero_of_mul (by rw [qv_mul, val_eq hd]; unfold sgn; cases a <;> simp)
  · rfl
end Mine
end
/-! part FL3 -/
section
open PySem PySem.Float64
set_option linter.unusedVariables false
set_option exponentiation.threshold 3000
namespace Mine
def tst (x : UInt64) (a : Bool) (m : Nat) (e : Int) : Bool := match decode x with
  | .fin a' m' e' => a == a' && m == m' && e == e'
  | _ => false
theorem tst_eq {x : UInt64} {a : Bool} {m : Nat} {e : Int} (h : tst x a m e = true) : decode x = .fin a m e := by
  unfold tst at h
  split at h
  · rename_i h'; simp at h; rw [h']; simp [h]
  · cases h
theorem qv_dec {x : UInt64} {a : Bool} {m k : Nat} (hk : k ≤ 1074) (h : tst x a m (-(k : Int)) = true) : IsF x ∧ qv x * 2 ^ k = ((sgn a m : Int) : Rat) := by
  have h := tst_eq h
  refine ⟨⟨_, _, _, h⟩, ?_⟩
  have e1 := qv_mul x
  have e0 : (-(k : Int) + 1074).toNat = 1074 - k := by omega
  rw [val_eq h, sgn_mul, e0, Rat.intCast_mul, Rat.intCast_natCast, natCast_two_pow, S_eq (k := k) (j := 1074 - k) (by omega)] at e1
  have := pow_pos (1074 - k)
  generalize (2 : Rat) ^ (1074 - k) = c at *
  have h0 : (qv x * 2 ^ k - ((sgn a m : Int) : Rat)) * c = 0 := by grind
  rcases Rat.mul_eq_zero.mp h0 with h | h <;> grind
/-- the unit of error -/
noncomputable def ep : Rat := 1 / 1125899906842624
theorem ep_pos : 0 < ep := by unfold ep; grind
theorem ep_lt : ep ≤ 1 / 1000000000000000 := by unfold ep; grind
theorem k_one : IsF f1 ∧ qv f1 = 1 := by
  have h := qv_dec (x := f1) (a := false) (m := 4503599627370496) (k := 52) (by decide) (by decide +kernel)
  refine ⟨h.1, ?_⟩
  have := h.2; unfold sgn at this; simp at this; grind
theorem k_two : IsF f2 ∧ qv f2 = 2 := by
  have h := qv_dec (x := f2) (a := false) (m := 4503599627370496) (k := 51) (by decide) (by decide +kernel)
  refine ⟨h.1, ?_⟩
  have := h.2; unfold sgn at this; simp at this; grind
theorem k_four : IsF f4 ∧ qv f4 = 4 := by
  have h := qv_dec (x := f4) (a := false) (m := 4503599627370496) (k := 50) (by decide) (by decide +kernel)
  refine ⟨h.1, ?_⟩
  have := h.2; unfold sgn at this; simp at this; grind
theorem k_six : IsF f6 ∧ qv f6 = 6 := by
  have h := qv_dec (x := f6) (a := false) (m := 6755399441055744) (k := 50) (by decide) (by decide +kernel)
  refine ⟨h.1, ?_⟩
  have := h.2; unfold sgn at this; simp at this; grind
theorem k_half : IsF fHalf ∧ qv fHalf = 1 / 2 := by
  have h := qv_dec (x := fHalf) (a := false) (m := 4503599627370496) (k := 53) (by decide) (by decide +kernel)
  refine ⟨h.1, ?_⟩
  have := h.2; unfold sgn at this; simp at this; grind
theorem k_third : IsF fThird ∧ Nr (qv fThird) (1 / 3) ep := by
  have h := qv_dec (x := fThird) (a := false) (m := 6004799503160661) (k := 54) (by decide) (by decide +kernel)
  refine ⟨h.1, ?_, ?_⟩ <;> (have := h.2; unfold sgn at this; simp at this; unfold ep; grind)
theorem k_sixth : IsF fSixth ∧ Nr (qv fSixth) (1 / 6) ep := by
  have h := qv_dec (x := fSixth) (a := false) (m := 6004799503160661) (k := 55) (by decide) (by decide +kernel)
  refine ⟨h.1, ?_, ?_⟩ <;> (have := h.2; unfold sgn at this; simp at this; unfold ep; grind)
theorem k_twoThird : IsF fTwoThird ∧ Nr (qv fTwoThird) (2 / 3) ep := by
  have h := qv_dec (x := fTwoThird) (a := false) (m := 6004799503160661) (k := 53) (by decide) (by decide +kernel)
  refine ⟨h.1, ?_, ?_⟩ <;> (have := h.2; unfold sgn at this; simp at this; unfold ep; grind)
theorem k_zero : IsF 0 ∧ qv 0 = 0 := by
  have h : (0 : UInt64) = zero false := by decide +kernel
  rw [h]; exact ⟨isF_zero _, qv_zero _⟩
theorem ep8 : (2 : Rat) ^ 3 / 2 ^ 53 = ep := by unfold ep; grind
theorem add_n {x y : UInt64} (hx : IsF x) (hy : IsF y) (h1 : qv x + qv y ≤ 8) (h2 : -8 ≤ qv x + qv y) : IsF (add x y) ∧ Nr (qv (add x y)) (qv x + qv y) ep := by
  have := add_near hx hy 3 (by decide) (by grind) (by grind); rwa [ep8] at this
theorem sub_n {x y : UInt64} (hx : IsF x) (hy : IsF y) (h1 : qv x - qv y ≤ 8) (h2 : -8 ≤ qv x - qv y) : IsF (sub x y) ∧ Nr (qv (sub x y)) (qv x - qv y) ep := by
  have := sub_near hx hy 3 (by decide) (by grind) (by grind); rwa [ep8] at this
theorem mul_n {x y : UInt64} (hx : IsF x) (hy : IsF y) (h1 : qv x * qv y ≤ 8) (h2 : -8 ≤ qv x * qv y) : IsF (mul x y) ∧ Nr (qv (mul x y)) (qv x * qv y) ep := by
  have := mul_near hx hy 3 (by decide) (by grind) (by grind); rwa [ep8] at this
theorem div_n {x y : UInt64} (hx : IsF x) (hy : IsF y) (hne : qv y ≠ 0) {E : Rat} (hE : E * qv y = qv x) (h1 : E ≤ 8) (h2 : -8 ≤ E) : IsF (div x y) ∧ Nr (qv (div x y)) E ep := by
  have := div_near hx hy hne 3 (by decide) hE (by grind) (by grind); rwa [ep8] at this
/-- a product of two that are nearly known -/
theorem nr_mul {x a e y b f : Rat} {X Y c : Rat} (hx : Nr x a e) (hy : Nr y b f) (he : 0 ≤ e) (hf : 0 ≤ f) (hX : x ≤ X) (hX2 : -X ≤ x) (hY : b ≤ Y) (hY2 : -Y ≤ b) (hc : X * f + e * Y ≤ c) : Nr (x * y) (a * b) c := by
  have e1 : x * y - a * b = x * (y - b) + (x - a) * b := by grind
  have p1 : ∀ {u v A B : Rat}, -A ≤ u → u ≤ A → -B ≤ v → v ≤ B → 0 ≤ A → u * v ≤ A * B := by
    intro u v A B h1 h2 h3 h4 h5
    by_cases hv : 0 ≤ v
    · have := Rat.mul_le_mul_of_nonneg_right h2 hv
      have := Rat.mul_le_mul_of_nonneg_left h4 h5
      grind
    · have hv' : 0 ≤ -v := by grind
      have q1 := Rat.mul_le_mul_of_nonneg_right h1 hv'
      have q2 : -v ≤ B := by grind
      have := Rat.mul_le_mul_of_nonneg_left q2 h5
      grind
  have h1 := hx.lo; have h2 := hx.hi; have h3 := hy.lo; have h4 := hy.hi
  have hX0 : 0 ≤ X := by grind
  have hY0 : 0 ≤ Y := by grind
  have a1 := p1 hX2 hX h3 h4 hX0
  have a2 := p1 (u := -x) (v := y - b) (A := X) (B := f) (by grind) (by grind) h3 h4 hX0
  have a3 := p1 (u := x - a) (v := b) (A := e) (B := Y) (by grind) (by grind) hY2 hY he
  have a4 := p1 (u := -(x - a)) (v := b) (A := e) (B := Y) (by grind) (by grind) hY2 hY he
  constructor <;> rw [e1] <;> grind
/-! hue % 1.0 -/
theorem ofBin_right {a : Bool} {n : Nat} {g : Int} (hg : -1074 ≤ g) : Right (ofBin a n g) a (n * 2 ^ (g + 1074).toNat) 1 := by
  unfold ofBin
  refine ofFrac_right (shift_pos _ _ _ (by decide)) ?_ (by decide)
  have := shift_one n g 1074 (by omega)
  rw [Nat.mul_one]
  exact this
theorem fm_1 {e k : Int} (he : -1074 ≤ e) (h : k ≤ e) (h1 : -1074 ≤ k) : (e - k).toNat + (k + 1074).toNat = (e + 1074).toNat := by
  rw [← Int.toNat_add (Int.sub_nonneg.mpr h) (by omega), show e - k + (k + 1074) = e + 1074 by omega]
theorem fm_2 {k : Int} (h : k ≤ -52) (h1 : -1074 ≤ k) : 52 + ((-52 - k).toNat + (k + 1074).toNat) = 1074 := by omega
theorem fmod_one {x : UInt64} (hx : IsF x) : ∃ a, Right (fmod x f1) a ((val x).natAbs % SN) 1 ∧ val x = sgn a (val x).natAbs := by
  obtain ⟨a, m, e, hx⟩ := hx
  have he := decode_ge hx
  have h1 : decode f1 = .fin false 4503599627370496 (-52) := tst_eq (by decide +kernel)
  refine ⟨a, ?_, val_sgn hx⟩
  have e1 : fmod x f1 = ofBin a ((m * 2 ^ (e - min e (-52)).toNat) % (4503599627370496 * 2 ^ (-52 - min e (-52)).toNat)) (min e (-52)) := by
    unfold fmod
    rw [hx, h1]
    simp only [align, sgn, Bool.false_eq_true, if_false, Int.toNat_natCast]
    rw [if_neg (by decide)]
  have e2 : (val x).natAbs % SN = (m * 2 ^ (e - min e (-52)).toNat) % (4503599627370496 * 2 ^ (-52 - min e (-52)).toNat) * 2 ^ (min e (-52) + 1074).toNat := by
    rw [val_natAbs hx, ← Nat.mul_mod_mul_right, Nat.mul_assoc, Nat.mul_assoc, ← Nat.pow_add, ← Nat.pow_add, show (4503599627370496 : Nat) = 2 ^ 52 by decide, ← Nat.pow_add,
      fm_1 he (Int.min_le_left _ _) (Int.le_min.mpr ⟨he, by decide⟩), fm_2 (Int.min_le_right _ _) (Int.le_min.mpr ⟨he, by decide⟩), SN_eq]
  rw [e1, e2]
  exact ofBin_right (by omega)
theorem copy_zero : copysign (zero false) f1 = zero false := by decide +kernel
theorem snd_eq (x : UInt64) : (divmod x f1).snd = if isZero (fmod x f1) = true then zero false else if lt (fmod x f1) (zero false) = true then add (fmod x f1) f1 else fmod x f1 := by
  have h0 : lt f1 (zero false) = false := by decide +kernel
  unfold divmod
  by_cases h1 : isZero (fmod x f1) = true
  · simp [h1, copy_zero]
  · by_cases h2 : lt (fmod x f1) (zero false) = true
    · simp [h1, h2, h0]
    · simp [h1, h2, h0]
theorem natS (n : Nat) : ((n : Nat) : Rat) = (n : Rat) := rfl
theorem mod_one {x : UInt64} (hx : IsF x) : IsF (divmod x f1).snd ∧ -ep ≤ qv (divmod x f1).snd ∧ qv (divmod x f1).snd ≤ 1 + ep ∧ ∃ n : Int, Nr (qv (divmod x f1).snd) (qv x - n) (2 * ep) := by
  obtain ⟨a, hr, hv⟩ := fmod_one hx
  have hs := S_pos
  have hp := ep_pos
  have hp1 := ep_lt
  have hN := SN_pos
  -- the exact remainder
  have hdm := Nat.div_add_mod (val x).natAbs SN
  have hlt := Nat.mod_lt (val x).natAbs hN
  generalize hW : (val x).natAbs % SN = W at *
  generalize hq : (val x).natAbs / SN = q at *
  have e1 : qv x * S = ((sgn a (SN * q + W) : Int) : Rat) := by rw [qv_mul, hdm, ← hv]
  have e2 : ((sgn a (SN * q + W) : Int) : Rat) = S * ((sgn a q : Int) : Rat) + ((sgn a W : Int) : Rat) := by
    unfold sgn S; cases a <;> simp [Rat.intCast_neg, Rat.intCast_add, Rat.intCast_mul, Rat.intCast_natCast] <;> grind
  have hW2 : (W : Rat) ≤ S := by unfold S; exact Rat.natCast_le_natCast.mpr (by omega)
  have hW0 : (0 : Rat) ≤ W := Rat.natCast_nonneg
  have hE : (qv x - ((sgn a q : Int) : Rat)) * S = ((sgn a W : Int) : Rat) := by grind
  generalize hEE : qv x - ((sgn a q : Int) : Rat) = E at *
  have hsW : ((sgn a W : Int) : Rat) = (if a then -(W : Rat) else (W : Rat)) := by
    unfold sgn; cases a <;> simp [Rat.intCast_neg, Rat.intCast_natCast]
  have hE1 : E ≤ 1 := by
    refine Rat.le_of_mul_le_mul_right (c := S) ?_ hs
    rw [hE, hsW]; cases a <;> simp <;> grind
  have hE2 : -1 ≤ E := by
    refine Rat.le_of_mul_le_mul_right (c := S) ?_ hs
    rw [hE, hsW]; cases a <;> simp <;> grind
  have hn := near_of_right hr (by decide) (E := E) (by rw [hE]; grind) 0 (by decide) (by grind) (by grind)
  have e53 : (2 : Rat) ^ 0 / 2 ^ 53 ≤ ep / 8 := by unfold ep; grind
  generalize (2 : Rat) ^ 0 / 2 ^ 53 = d at *
  obtain ⟨hf, hl, hh⟩ := hn
  rw [snd_eq]
  by_cases h1 : isZero (fmod x f1) = true
  · rw [if_pos h1, qv_zero]
    have hz : qv (fmod x f1) = 0 := by
      by_cases hz : qv (fmod x f1) = 0
      · exact hz
      · rw [isZero_of hz] at h1; cases h1
    refine ⟨isF_zero _, by grind, by grind, sgn a q, ?_⟩
    constructor <;> grind
  · rw [if_neg h1]
    by_cases h2 : lt (fmod x f1) (zero false) = true
    · rw [if_pos h2]
      have h3 := (cmp_lt hf (isF_zero false)).mp h2
      rw [qv_zero] at h3
      obtain ⟨k1, k2⟩ := k_one
      have h4 := add_near hf k1 0 (by decide) (by rw [k2]; grind) (by rw [k2]; grind)
      have e53 : (2 : Rat) ^ 0 / 2 ^ 53 ≤ ep / 8 := by unfold ep; grind
      rw [k2] at h4
      generalize (2 : Rat) ^ 0 / 2 ^ 53 = d2 at *
      obtain ⟨g0, g1, g2⟩ := h4
      refine ⟨g0, by grind, by grind, sgn a q - 1, ?_⟩
      rw [Rat.intCast_sub, show ((1 : Int) : Rat) = 1 from rfl]
      constructor <;> grind
    · rw [if_neg h2]
      have h3 : ¬ qv (fmod x f1) < 0 := by
        intro h
        exact h2 ((cmp_lt hf (isF_zero false)).mpr (by rw [qv_zero]; exact h))
      refine ⟨hf, by grind, by grind, sgn a q, ?_⟩
      constructor <;> grind
/-! int(x) -/
theorem trunc_is {x : UInt64} (hx : IsF x) {N : Int} (hN : 0 ≤ N) (h1 : (N : Rat) ≤ qv x) (h2 : qv x < N + 1) (hpos : 0 < qv x) : Flt.toInt truncOf x = N := by
  obtain ⟨a, m, e, hx⟩ := hx
  have hs := S_pos
  have he := decode_ge hx
  rw [Flt.toInt_fin hx]
  have hv : val x = sgn a (m * 2 ^ (e + 1074).toNat) := val_eq hx
  have ha : a = false := by
    cases a
    · rfl
    · exfalso
      have := Rat.mul_pos hpos hs
      rw [qv_mul, Rat.intCast_pos, hv] at this
      unfold sgn at this
      simp only [if_true] at this
      generalize m * 2 ^ (e + 1074).toNat = z at this
      omega
  subst ha
  have g1 : N * (SN : Int) ≤ val x := by
    rw [← Rat.intCast_le_intCast, Rat.intCast_mul, ← qv_mul, Rat.intCast_natCast]
    exact Rat.mul_le_mul_of_nonneg_right h1 (by grind)
  have g2 : val x < (N + 1) * (SN : Int) := by
    rw [← Rat.intCast_lt_intCast, Rat.intCast_mul, ← qv_mul, Rat.intCast_natCast]
    exact (Rat.mul_lt_mul_right hs).mpr (by rw [Rat.intCast_add]; exact h2)
  rw [hv, SN_eq] at g1 g2
  unfold sgn at g1 g2
  simp only [Bool.false_eq_true, if_false] at g1 g2
  have hNn : N = ((N.toNat : Nat) : Int) := by omega
  rw [hNn] at g1 g2 ⊢
  generalize N.toNat = n at *
  have g1 : n * 2 ^ 1074 ≤ m * 2 ^ (e + 1074).toNat := Int.ofNat_le.mp (by rw [Int.natCast_mul]; exact g1)
  have g2 : m * 2 ^ (e + 1074).toNat < (n + 1) * 2 ^ 1074 := Int.ofNat_lt.mp (by rw [Int.natCast_mul (n + 1), Int.natCast_add]; exact g2)
  unfold truncOf floorOf sgn
  simp only [Bool.false_eq_true, if_false]
  split
  · rename_i h0
    rw [show (e + 1074).toNat = e.toNat + 1074 by omega, Nat.pow_add, ← Nat.mul_assoc] at g1 g2
    have hp : 0 < 2 ^ 1074 := Nat.two_pow_pos _
    have g1 := Nat.le_of_mul_le_mul_right g1 hp
    have g2 := Nat.lt_of_mul_lt_mul_right g2
    have : m * 2 ^ e.toNat = n := by omega
    rw [← this, Int.natCast_mul, Int.natCast_pow]; rfl
  · rename_i h0
    have hp : 0 < 2 ^ (e + 1074).toNat := Nat.two_pow_pos _
    have e5 : 2 ^ 1074 = 2 ^ (-e).toNat * 2 ^ (e + 1074).toNat := by rw [← Nat.pow_add]; congr 1; omega
    rw [e5, ← Nat.mul_assoc] at g1 g2
    have g1 := Nat.le_of_mul_le_mul_right g1 hp
    have g2 := Nat.lt_of_mul_lt_mul_right g2
    have hq : 0 < 2 ^ (-e).toNat := Nat.two_pow_pos _
    rw [show ((2 : Int) ^ (-e).toNat) = ((2 ^ (-e).toNat : Nat) : Int) by rw [Int.natCast_pow]; rfl]
    rw [Int.fdiv_eq_ediv_of_nonneg _ (by omega), ← Int.natCast_ediv]
    congr 1
    refine Nat.div_eq_of_lt_le ?_ ?_
    · exact g1
    · exact g2
end Mine
end
/-! part FL4 -/
section
open PySem PySem.Float64
set_option linter.unusedVariables false
set_option exponentiation.threshold 3000
namespace Mine
theorem mul_bd {u v A B : Rat} (h1 : -A ≤ u) (h2 : u ≤ A) (h3 : -B ≤ v) (h4 : v ≤ B) : u * v ≤ A * B ∧ -(A * B) ≤ u * v := by
  have p1 : ∀ {u v A B : Rat}, -A ≤ u → u ≤ A → -B ≤ v → v ≤ B → u * v ≤ A * B := by
    intro u v A B h1 h2 h3 h4
    have h5 : 0 ≤ A := by grind
    by_cases hv : 0 ≤ v
    · have := Rat.mul_le_mul_of_nonneg_right h2 hv
      have := Rat.mul_le_mul_of_nonneg_left h4 h5
      grind
    · have hv' : 0 ≤ -v := by grind
      have q1 := Rat.mul_le_mul_of_nonneg_right h1 hv'
      have q2 : -v ≤ B := by grind
      have := Rat.mul_le_mul_of_nonneg_left q2 h5
      grind
  refine ⟨p1 h1 h2 h3 h4, ?_⟩
  have := p1 (u := -u) (v := v) (A := A) (B := B) (by grind) (by grind) h3 h4
  grind
/-- the wheel: what a part is at k + f sixths -/
noncomputable def Y (k : Int) (f : Rat) : Rat := if k % 6 = 0 then f else if k % 6 = 1 then 1 else if k % 6 = 2 then 1 else if k % 6 = 3 then 1 - f else 0
theorem Y_bd {k : Int} {f : Rat} (h0 : 0 ≤ f) (h1 : f ≤ 1) : 0 ≤ Y k f ∧ Y k f ≤ 1 := by
  unfold Y; split
  · exact ⟨h0, h1⟩
  · split
    · constructor <;> grind
    · split
      · constructor <;> grind
      · split <;> constructor <;> grind
theorem nr_trans {x y z e f g : Rat} (h : Nr x y e) (h' : Nr y z f) (hg : e + f ≤ g) : Nr x z g := by
  obtain ⟨a, b⟩ := h; obtain ⟨c, d⟩ := h'; constructor <;> grind
theorem nr_add {x a e y b f g : Rat} (h : Nr x a e) (h' : Nr y b f) (hg : e + f ≤ g) : Nr (x + y) (a + b) g := by
  obtain ⟨a, b⟩ := h; obtain ⟨c, d⟩ := h'; constructor <;> grind
theorem nr_sub {x a e y b f g : Rat} (h : Nr x a e) (h' : Nr y b f) (hg : e + f ≤ g) : Nr (x - y) (a - b) g := by
  obtain ⟨a, b⟩ := h; obtain ⟨c, d⟩ := h'; constructor <;> grind
/-- where a hue lies on the wheel, by the branches of _v -/
theorem mid_nat : ∀ n : Nat, n < 8 → ((n : Int) - 1 = -1 ∨ (n : Int) - 1 = 0 ∨ (n : Int) - 1 = 1 ∨ (n : Int) - 1 = 2 ∨ (n : Int) - 1 = 3 ∨ (n : Int) - 1 = 4 ∨ (n : Int) - 1 = 5 ∨ (n : Int) - 1 = 6) := by decide
theorem mid_cases {j : Int} (h : -2 < j) (h1 : j < 7) : j = -1 ∨ j = 0 ∨ j = 1 ∨ j = 2 ∨ j = 3 ∨ j = 4 ∨ j = 5 ∨ j = 6 := by
  have := mid_nat (j + 1).toNat (by omega)
  rwa [show (((j + 1).toNat : Nat) : Int) - 1 = j by omega] at this
theorem wheel {t f : Rat} {k n : Int} (lo : -ep ≤ t) (hi : t ≤ 1 + ep) (h0 : 0 ≤ f) (h1 : f ≤ 1) (nt : Nr t (((k : Rat) + f) / 6 - n) (22 * ep)) {a6 b3 : Rat} (h6 : Nr a6 (1 / 6) ep) (h3 : Nr b3 (2 / 3) ep) :
    (t < a6 → Nr (6 * t) (Y k f) (140 * ep)) ∧ (¬ t < a6 → t < 1 / 2 → Nr 1 (Y k f) (140 * ep)) ∧ (¬ t < 1 / 2 → t < b3 → Nr (4 - 6 * t) (Y k f) (140 * ep)) ∧ (¬ t < b3 → Nr 0 (Y k f) (140 * ep)) := by
  have hp := ep_pos
  have hq := ep_lt
  obtain ⟨n1, n2⟩ := nt
  obtain ⟨c1, c2⟩ := h6
  obtain ⟨d1, d2⟩ := h3
  have hj : ((k - 6 * n : Int) : Rat) = (k : Rat) - 6 * (n : Rat) := by rw [Rat.intCast_sub, Rat.intCast_mul]; rfl
  generalize hjj : k - 6 * n = j at hj
  have hk : k % 6 = j % 6 := by omega
  have j1 : -2 < j := by
    rw [← Rat.intCast_lt_intCast, hj, show ((-2 : Int) : Rat) = -2 from rfl]; grind
  have j2 : j < 7 := by
    rw [← Rat.intCast_lt_intCast, hj, show ((7 : Int) : Rat) = 7 from rfl]; grind
  have m1 : -(132 * ep) ≤ 6 * t - ((j : Rat) + f) := by rw [hj]; grind
  have m2 : 6 * t - ((j : Rat) + f) ≤ 132 * ep := by rw [hj]; grind
  clear n1 n2 hj
  unfold Y
  rw [hk]
  have hc : j = -1 ∨ j = 0 ∨ j = 1 ∨ j = 2 ∨ j = 3 ∨ j = 4 ∨ j = 5 ∨ j = 6 := mid_cases j1 j2
  clear hk hjj j1 j2
  rcases hc with rfl | rfl | rfl | rfl | rfl | rfl | rfl | rfl
  · rw [show ((-1 : Int) : Rat) = -1 from rfl] at m1 m2
    simp only [show ((-1 : Int) % 6) = 5 from rfl]
    refine ⟨fun h => ⟨by grind, by grind⟩, fun h h' => ⟨by grind, by grind⟩, fun h h' => ⟨by grind, by grind⟩, fun h => ⟨by grind, by grind⟩⟩
  · rw [show ((0 : Int) : Rat) = 0 from rfl] at m1 m2
    simp only [show ((0 : Int) % 6) = 0 from rfl]
    refine ⟨fun h => ⟨by grind, by grind⟩, fun h h' => ⟨by grind, by grind⟩, fun h h' => ⟨by grind, by grind⟩, fun h => ⟨by grind, by grind⟩⟩
  · rw [show ((1 : Int) : Rat) = 1 from rfl] at m1 m2
    simp only [show ((1 : Int) % 6) = 1 from rfl]
    refine ⟨fun h => ⟨by grind, by grind⟩, fun h h' => ⟨by grind, by grind⟩, fun h h' => ⟨by grind, by grind⟩, fun h => ⟨by grind, by grind⟩⟩
  · rw [show ((2 : Int) : Rat) = 2 from rfl] at m1 m2
    simp only [show ((2 : Int) % 6) = 2 from rfl]
    refine ⟨fun h => ⟨by grind, by grind⟩, fun h h' => ⟨by grind, by grind⟩, fun h h' => ⟨by grind, by grind⟩, fun h => ⟨by grind, by grind⟩⟩
  · rw [show ((3 : Int) : Rat) = 3 from rfl] at m1 m2
    simp only [show ((3 : Int) % 6) = 3 from rfl]
    refine ⟨fun h => ⟨by grind, by grind⟩, fun h h' => ⟨by grind, by grind⟩, fun h h' => ⟨by grind, by grind⟩, fun h => ⟨by grind, by grind⟩⟩
  · rw [show ((4 : Int) : Rat) = 4 from rfl] at m1 m2
    simp only [show ((4 : Int) % 6) = 4 from rfl]
    refine ⟨fun h => ⟨by grind, by grind⟩, fun h h' => ⟨by grind, by grind⟩, fun h h' => ⟨by grind, by grind⟩, fun h => ⟨by grind, by grind⟩⟩
  · rw [show ((5 : Int) : Rat) = 5 from rfl] at m1 m2
    simp only [show ((5 : Int) % 6) = 5 from rfl]
    refine ⟨fun h => ⟨by grind, by grind⟩, fun h h' => ⟨by grind, by grind⟩, fun h h' => ⟨by grind, by grind⟩, fun h => ⟨by grind, by grind⟩⟩
  · rw [show ((6 : Int) : Rat) = 6 from rfl] at m1 m2
    simp only [show ((6 : Int) % 6) = 0 from rfl]
    refine ⟨fun h => ⟨by grind, by grind⟩, fun h h' => ⟨by grind, by grind⟩, fun h h' => ⟨by grind, by grind⟩, fun h => ⟨by grind, by grind⟩⟩
/-- m1 + (m2 - m1) * u * 6 -/
theorem slope {m1 m2 u : UInt64} (h1 : IsF m1) (h2 : IsF m2) (hu : IsF u) {a b y : Rat} (n1 : Nr (qv m1) a (12 * ep)) (n2 : Nr (qv m2) b (12 * ep)) (ha : 0 ≤ a) (hab : a ≤ b) (hb : b ≤ 1) (hy0 : 0 ≤ y) (hy1 : y ≤ 1) (ny : Nr (6 * qv u) y (160 * ep)) :
    IsF (add m1 (mul (mul (sub m2 m1) u) f6)) ∧ Nr (qv (add m1 (mul (mul (sub m2 m1) u) f6))) (a + (b - a) * y) (400 * ep) := by
  have hp := ep_pos
  have hq := ep_lt
  obtain ⟨k1, k2⟩ := k_six
  obtain ⟨a1, a2⟩ := n1
  obtain ⟨b1, b2⟩ := n2
  obtain ⟨y1, y2⟩ := ny
  obtain ⟨s0, s1, s2⟩ := sub_n h2 h1 (by grind) (by grind)
  have nd : Nr (qv (sub m2 m1)) (b - a) (25 * ep) := ⟨by grind, by grind⟩
  generalize sub m2 m1 = d at *
  have bd := mul_bd (u := qv d) (v := qv u) (A := 2) (B := 1) (by grind) (by grind) (by grind) (by grind)
  obtain ⟨p0, p1, p2⟩ := mul_n s0 hu (by grind) (by grind)
  have nm := nr_mul (x := qv d) (a := b - a) (e := 25 * ep) (y := 6 * qv u) (b := y) (f := 160 * ep) (X := 2) (Y := 1) (c := 345 * ep) nd ⟨y1, y2⟩ (by grind) (by grind) (by grind) (by grind) hy1 (by grind) (by grind)
  obtain ⟨m3, m4⟩ := nm
  have hz := mul_bd (u := b - a) (v := y) (A := 1) (B := 1) (by grind) (by grind) (by grind) (by grind)
  generalize (b - a) * y = z at *
  have e1 : qv d * (6 * qv u) = 6 * (qv d * qv u) := by grind
  rw [e1] at m3 m4
  generalize qv d * qv u = du at *
  generalize mul d u = w at *
  obtain ⟨q0, q1, q2⟩ := mul_n p0 k1 (by rw [k2]; grind) (by rw [k2]; grind)
  rw [k2] at q1 q2
  generalize mul w f6 = v at *
  obtain ⟨r0, r1, r2⟩ := add_n h1 q0 (by grind) (by grind)
  exact ⟨r0, by grind, by grind⟩
theorem v_near {m1 m2 hue : UInt64} (h1 : IsF m1) (h2 : IsF m2) (hh : IsF hue) {a b f : Rat} {k : Int} (n1 : Nr (qv m1) a (12 * ep)) (n2 : Nr (qv m2) b (12 * ep)) (ha : 0 ≤ a) (hab : a ≤ b) (hb : b ≤ 1) (hf0 : 0 ≤ f) (hf1 : f ≤ 1) {n₀ : Int} (nh : Nr (qv hue) (((k : Rat) + f) / 6 - n₀) (20 * ep)) :
    IsF (vF m1 m2 hue) ∧ Nr (qv (vF m1 m2 hue)) (a + (b - a) * Y k f) (400 * ep) := by
  have hp := ep_pos
  have hq := ep_lt
  obtain ⟨tF, lo, hi, n, nt⟩ := mod_one hh
  obtain ⟨six1, six2⟩ := k_sixth
  obtain ⟨tt1, tt2⟩ := k_twoThird
  obtain ⟨hf1', hf2'⟩ := k_half
  have hY := Y_bd (k := k) hf0 hf1
  have W := wheel (k := k) (n := n + n₀) lo hi hf0 hf1 (by
    obtain ⟨u1, u2⟩ := nt
    obtain ⟨u3, u4⟩ := nh
    rw [Rat.intCast_add]
    constructor <;> grind) six2 tt2
  obtain ⟨w1, w2, w3, w4⟩ := W
  unfold vF
  by_cases c1 : (cmp (divmod hue f1).snd fSixth == some .lt) = true
  · rw [if_pos c1]
    have := w1 ((cmp_lt tF six1).mp c1)
    exact slope h1 h2 tF n1 n2 ha hab hb hY.1 hY.2 ⟨by have := this.lo; grind, by have := this.hi; grind⟩
  · rw [if_neg c1]
    have c1' := mt (cmp_lt tF six1).mpr c1
    by_cases c2 : (cmp (divmod hue f1).snd fHalf == some .lt) = true
    · rw [if_pos c2]
      have c2' := (cmp_lt tF hf1').mp c2
      rw [hf2'] at c2'
      have := w2 c1' c2'
      refine ⟨h2, ?_⟩
      have nm := nr_mul (x := b - a) (a := b - a) (e := 0) (y := 1) (b := Y k f) (f := 140 * ep) (X := 1) (Y := 1) (c := 140 * ep) ⟨by grind, by grind⟩ this (by grind) (by grind) (by grind) (by grind) hY.2 (by grind) (by grind)
      obtain ⟨m3, m4⟩ := nm
      obtain ⟨b1, b2⟩ := n2
      constructor <;> grind
    · rw [if_neg c2]
      have c2' := mt (cmp_lt tF hf1').mpr c2
      rw [hf2'] at c2'
      by_cases c3 : (cmp (divmod hue f1).snd fTwoThird == some .lt) = true
      · rw [if_pos c3]
        have c3' := (cmp_lt tF tt1).mp c3
        obtain ⟨u1, u2⟩ := w3 c2' c3'
        obtain ⟨t1, t2⟩ := tt2
        obtain ⟨s0, s1, s2⟩ := sub_n tt1 tF (by grind) (by grind)
        exact slope h1 h2 s0 n1 n2 ha hab hb hY.1 hY.2 ⟨by grind, by grind⟩
      · rw [if_neg c3]
        have c3' := mt (cmp_lt tF tt1).mpr c3
        have := w4 c3'
        refine ⟨h1, ?_⟩
        have nm := nr_mul (x := b - a) (a := b - a) (e := 0) (y := 0) (b := Y k f) (f := 140 * ep) (X := 1) (Y := 1) (c := 140 * ep) ⟨by grind, by grind⟩ this (by grind) (by grind) (by grind) (by grind) hY.2 (by grind) (by grind)
        obtain ⟨m3, m4⟩ := nm
        obtain ⟨b1, b2⟩ := n1
        constructor <;> grind
end Mine
end
/-! part FL5 -/
section
open PySem PySem.Float64
set_option linter.unusedVariables false
set_option exponentiation.threshold 3000
namespace Mine
/-- a whole number of 2^-35ths -/
def G (x : UInt64) (n : Int) : Prop := IsF x ∧ qv x * 2 ^ 35 = (n : Rat)
theorem G.val {x : UInt64} {n : Int} (h : G x n) : qv x = (n : Rat) / 2 ^ 35 := by
  have := h.2; grind
theorem p35 : (2 : Rat) ^ 35 = 34359738368 := by grind
theorem G.lt {x y : UInt64} {p q : Int} (hx : G x p) (hy : G y q) : (cmp x y == some .lt) = true ↔ p < q := by
  rw [cmp_lt hx.1 hy.1, ← Rat.intCast_lt_intCast, ← hx.2, ← hy.2, p35]
  constructor <;> intro h <;> grind
theorem G.eq {x y : UInt64} {p q : Int} (hx : G x p) (hy : G y q) : (cmp x y == some .eq) = true ↔ p = q := by
  rw [cmp_eq hx.1 hy.1, ← Rat.intCast_inj, ← hx.2, ← hy.2, p35]
  constructor <;> intro h <;> grind
theorem fd_G {a : Int} (h : a.natAbs ≤ 2 ^ 53) : G (FD a c35) a := by
  have := frac_exact (n := a) h
  unfold FD
  rw [show decide (c35 < 0) = false by decide, show c35.natAbs = 2 ^ 35 by decide, show (decide (a < 0) != false) = decide (a < 0) by cases decide (a < 0) <;> rfl]
  exact this
def max3 (a b c : Int) : Int := max a (max b c)
theorem min3_le (a b c : Int) : min3 a b c ≤ a ∧ min3 a b c ≤ b ∧ min3 a b c ≤ c :=
  ⟨Int.min_le_left .., Int.le_trans (Int.min_le_right ..) (Int.min_le_left ..), Int.le_trans (Int.min_le_right ..) (Int.min_le_right ..)⟩
theorem le_max3 (a b c : Int) : a ≤ max3 a b c ∧ b ≤ max3 a b c ∧ c ≤ max3 a b c :=
  ⟨Int.le_max_left .., Int.le_trans (Int.le_max_left ..) (Int.le_max_right ..), Int.le_trans (Int.le_max_right ..) (Int.le_max_right ..)⟩
theorem le_min3 {a b c n : Int} (h1 : n ≤ a) (h2 : n ≤ b) (h3 : n ≤ c) : n ≤ min3 a b c := Int.le_min.mpr ⟨h1, Int.le_min.mpr ⟨h2, h3⟩⟩
theorem max3_le {a b c n : Int} (h1 : a ≤ n) (h2 : b ≤ n) (h3 : c ≤ n) : max3 a b c ≤ n := Int.max_le.mpr ⟨h1, Int.max_le.mpr ⟨h2, h3⟩⟩
theorem min3_at {p q t m : Int} (e : m = min3 p q t) : m ≤ p ∧ m ≤ q ∧ m ≤ t := e ▸ min3_le p q t
theorem max3_at {p q t m : Int} (e : m = max3 p q t) : p ≤ m ∧ q ≤ m ∧ t ≤ m := e ▸ le_max3 p q t
theorem min_p {p q t m : Int} (e : m = min3 p q t) (h : p ≤ q) (h1 : p ≤ t) : p = m := Int.le_antisymm (e ▸ le_min3 (Int.le_refl _) h h1) (min3_at e).1
theorem min_q {p q t m : Int} (e : m = min3 p q t) (h : q ≤ p) (h1 : q ≤ t) : q = m := Int.le_antisymm (e ▸ le_min3 h (Int.le_refl _) h1) (min3_at e).2.1
theorem min_t {p q t m : Int} (e : m = min3 p q t) (h : t ≤ p) (h1 : t ≤ q) : t = m := Int.le_antisymm (e ▸ le_min3 h h1 (Int.le_refl _)) (min3_at e).2.2
theorem max_t {p q t m : Int} (e : m = max3 p q t) (h : ¬p = m) (h1 : ¬q = m) : t = m := by
  obtain ⟨a, b, c⟩ := max3_at e
  refine Classical.byContradiction fun h2 => ?_
  have h3 : m ≤ m - 1 := Int.le_trans (Int.le_of_eq e) (max3_le (by omega) (by omega) (by omega))
  omega
theorem na53 {p m M : Int} (h0 : 0 ≤ m) (h1 : M < 2 ^ 35) (h : m ≤ p) (h2 : p ≤ M) : p.natAbs ≤ 2 ^ 53 := by omega
theorem maxF_G {r g b : UInt64} {p q t : Int} (hr : G r p) (hg : G g q) (hb : G b t) : G (maxF r g b) (max3 p q t) := by
  unfold maxF max3
  have e1 := hr.lt hg; have e2 := hg.lt hb; have e3 := hr.lt hb
  split
  · rename_i h; have h := e1.mp h
    split
    · rename_i h'; have h' := e2.mp h'; rw [Int.max_eq_right (Int.le_of_lt h'), Int.max_eq_right (Int.le_of_lt (Int.lt_trans h h'))]; exact hb
    · rename_i h'; have h' := mt e2.mpr h'; rw [Int.max_eq_left (Int.not_lt.mp h'), Int.max_eq_right (Int.le_of_lt h)]; exact hg
  · rename_i h; have h := mt e1.mpr h
    split
    · rename_i h'; have h' := e3.mp h'; rw [Int.max_eq_right (Int.le_trans (Int.not_lt.mp h) (Int.le_of_lt h')), Int.max_eq_right (Int.le_of_lt h')]; exact hb
    · rename_i h'; have h' := mt e3.mpr h'; rw [Int.max_eq_left (Int.max_le.mpr ⟨Int.not_lt.mp h, Int.not_lt.mp h'⟩)]; exact hr
theorem minF_G {r g b : UInt64} {p q t : Int} (hr : G r p) (hg : G g q) (hb : G b t) : G (minF r g b) (min3 p q t) := by
  unfold minF min3
  have e1 := hg.lt hr; have e2 := hb.lt hg; have e3 := hb.lt hr
  split
  · rename_i h; have h := e1.mp h
    split
    · rename_i h'; have h' := e2.mp h'; rw [Int.min_eq_right (Int.le_of_lt h'), Int.min_eq_right (Int.le_of_lt (Int.lt_trans h' h))]; exact hb
    · rename_i h'; have h' := mt e2.mpr h'; rw [Int.min_eq_left (Int.not_lt.mp h'), Int.min_eq_right (Int.le_of_lt h)]; exact hg
  · rename_i h; have h := mt e1.mpr h
    split
    · rename_i h'; have h' := e3.mp h'; rw [Int.min_eq_right (Int.le_trans (Int.le_of_lt h') (Int.not_lt.mp h)), Int.min_eq_right (Int.le_of_lt h')]; exact hb
    · rename_i h'; have h' := mt e3.mpr h'; rw [Int.min_eq_left (Int.le_min.mpr ⟨Int.not_lt.mp h, Int.not_lt.mp h'⟩)]; exact hr
theorem G.add {x y : UInt64} {p q : Int} (hx : G x p) (hy : G y q) (hb : (p + q).natAbs ≤ 2 ^ 53) : G (add x y) (p + q) := add_exact hx.1 hy.1 hx.2 hy.2 hb
theorem G.sub {x y : UInt64} {p q : Int} (hx : G x p) (hy : G y q) (hb : (p - q).natAbs ≤ 2 ^ 53) : G (sub x y) (p - q) := sub_exact hx.1 hy.1 hx.2 hy.2 hb
theorem G_two : G f2 (2 ^ 36) := by
  obtain ⟨h1, h2⟩ := k_two
  refine ⟨h1, ?_⟩
  rw [h2]; grind
/-- the frame of a colour: 0 ≤ m < M ≤ 2 ^ 35 -/
structure Col (r g b : UInt64) (p q t m M : Int) : Prop where
  gr : G r p
  gg : G g q
  gb : G b t
  gm : G (minF r g b) m
  gM : G (maxF r g b) M
  m0 : 0 ≤ m
  mM : m ≤ M
  M1 : M < 2 ^ 35
  em : m = min3 p q t
  eM : M = max3 p q t
theorem col_of {p q t : Int} (h0 : 0 ≤ min3 p q t) (h1 : max3 p q t < 2 ^ 35) : Col (FD p c35) (FD q c35) (FD t c35) p q t (min3 p q t) (max3 p q t) := by
  have a1 := fd_G (a := p) (na53 h0 h1 (min3_le p q t).1 (le_max3 p q t).1)
  have a2 := fd_G (a := q) (na53 h0 h1 (min3_le p q t).2.1 (le_max3 p q t).2.1)
  have a3 := fd_G (a := t) (na53 h0 h1 (min3_le p q t).2.2 (le_max3 p q t).2.2)
  exact ⟨a1, a2, a3, minF_G a1 a2 a3, maxF_G a1 a2 a3, h0, Int.le_trans (min3_le p q t).1 (le_max3 p q t).1, h1, rfl, rfl⟩
theorem rat_le_of {a b : Int} (h : a ≤ b) : (a : Rat) ≤ (b : Rat) := Rat.intCast_le_intCast.mpr h
theorem rat_lt_of {a b : Int} (h : a < b) : (a : Rat) < (b : Rat) := Rat.intCast_lt_intCast.mpr h
theorem light_near {r g b : UInt64} {p q t m M : Int} (C : Col r g b p q t m M) : IsF (lightF r g b) ∧ Nr (qv (lightF r g b)) (((m : Rat) / 2 ^ 35 + (M : Rat) / 2 ^ 35) / 2) ep := by
  have hs := C.gM.add C.gm (by have := C.m0; have := C.mM; have := C.M1; omega)
  obtain ⟨t1, t2⟩ := k_two
  have h0 := rat_le_of C.m0
  have h1 := rat_le_of C.mM
  have h2 := rat_lt_of C.M1
  rw [show (((2 ^ 35 : Int)) : Rat) = 34359738368 from rfl] at h2
  rw [show ((0 : Int) : Rat) = 0 from rfl] at h0
  have hv := hs.val
  rw [Rat.intCast_add] at hv
  rw [p35] at *
  unfold lightF
  refine div_n hs.1 t1 (by rw [t2]; decide) ?_ ?_ ?_
  · rw [t2, hv]; grind
  · grind
  · grind
end Mine
end
/-! part FL6 -/
section
open PySem PySem.Float64
set_option linter.unusedVariables false
set_option exponentiation.threshold 3000
namespace Mine
theorem div_mul' {x y : Rat} (h : y ≠ 0) : x / y * y = x := Rat.div_mul_cancel h
theorem le_of_div {x y : Rat} (hy : 0 < y) (h : x ≤ y) : x / y ≤ 1 := by
  refine Rat.le_of_mul_le_mul_right (c := y) ?_ hy
  rw [div_mul' (by grind)]; grind
theorem nonneg_div {x y : Rat} (hy : 0 < y) (h : 0 ≤ x) : 0 ≤ x / y := by
  refine Rat.le_of_mul_le_mul_right (c := y) ?_ hy
  rw [div_mul' (by grind)]; grind
/-- what the floats of a colour that is not grey are -/
structure Shade (r g b : UInt64) (a c : Rat) : Prop where
  m1 : IsF (m1F (lightF r g b) (shareF r g b)) ∧ Nr (qv (m1F (lightF r g b) (shareF r g b))) a (12 * ep)
  m2 : IsF (m2F (lightF r g b) (shareF r g b)) ∧ Nr (qv (m2F (lightF r g b) (shareF r g b))) c (12 * ep)
  sF : IsF (shareF r g b)
  s0 : 0 < qv (shareF r g b)
theorem shade_near {r g b : UInt64} {p q t m M : Int} (C : Col r g b p q t m M) (hlt : m < M) : Shade r g b ((m : Rat) / 2 ^ 35) ((M : Rat) / 2 ^ 35) := by
  have hp := ep_pos
  have hq := ep_lt
  have m0 := C.m0; have M1 := C.M1
  have hs := C.gM.add C.gm (by omega)
  have hr := C.gM.sub C.gm (by omega)
  have ht := (G_two.sub C.gM (by omega)).sub C.gm (by omega)
  obtain ⟨lF, l1, l2⟩ := light_near C
  obtain ⟨k1, k1v⟩ := k_one
  obtain ⟨k2, k2v⟩ := k_two
  obtain ⟨hf1, hf2⟩ := k_half
  have h0 := rat_le_of C.m0
  have h1 : (m : Rat) + 1 ≤ M := by
    have := rat_le_of (show m + 1 ≤ M by omega)
    rw [Rat.intCast_add] at this; exact this
  have h2 := rat_lt_of C.M1
  rw [show (((2 ^ 35 : Int)) : Rat) = 34359738368 from rfl] at h2
  rw [show ((0 : Int) : Rat) = 0 from rfl] at h0
  have sv := hs.val
  have rv := hr.val
  have tv := ht.val
  rw [Rat.intCast_add] at sv
  rw [Rat.intCast_sub] at rv
  rw [Rat.intCast_sub, Rat.intCast_sub, show (((2 ^ 36 : Int)) : Rat) = 68719476736 from rfl] at tv
  rw [p35] at *
  generalize ha : (m : Rat) / 34359738368 = a at *
  generalize hc : (M : Rat) / 34359738368 = c at *
  have a0 : 0 ≤ a := by grind
  have ac : a + 1 / 34359738368 ≤ c := by grind
  have c1 : c < 1 := by grind
  have sv : qv (add (maxF r g b) (minF r g b)) = c + a := by grind
  have rv : qv (sub (maxF r g b) (minF r g b)) = c - a := by grind
  have tv : qv (sub (sub f2 (maxF r g b)) (minF r g b)) = 2 - c - a := by grind
  clear ha hc h0 h1 h2
  have le := cmp_le lF hf1
  rw [hf2] at le
  generalize hl : lightF r g b = l at *
  by_cases hc : qv l ≤ 1 / 2
  · have hb := le.mpr hc
    have es : shareF r g b = div (sub (maxF r g b) (minF r g b)) (add (maxF r g b) (minF r g b)) := by unfold shareF; rw [hl, if_pos hb]
    obtain ⟨sF, s1, s2⟩ := div_n (E := (c - a) / (c + a)) hr.1 hs.1 (by rw [sv]; grind) (by rw [sv, rv, div_mul' (by grind)])
      (by have := le_of_div (x := c - a) (y := c + a) (by grind) (by grind); grind) (by have := nonneg_div (x := c - a) (y := c + a) (by grind) (by grind); grind)
    have b1 := le_of_div (x := c - a) (y := c + a) (by grind) (by grind)
    have b0 := nonneg_div (x := c - a) (y := c + a) (by grind) (by grind)
    have bm : (c - a) / (c + a) * (c + a) = c - a := div_mul' (by grind)
    have bpos : 1 / 68719476736 ≤ (c - a) / (c + a) := by
      refine Rat.le_of_mul_le_mul_right (c := c + a) ?_ (by grind)
      rw [bm]; grind
    rw [← es] at sF s1 s2
    generalize hs' : shareF r g b = s at *
    generalize (c - a) / (c + a) = S at *
    obtain ⟨u0, u1, u2⟩ := add_n k1 sF (by rw [k1v]; grind) (by rw [k1v]; grind)
    rw [k1v] at u1 u2
    have nm := nr_mul (x := qv l) (a := (a + c) / 2) (e := ep) (y := qv (add f1 s)) (b := 1 + S) (f := 2 * ep) (X := 1) (Y := 2) (c := 4 * ep) ⟨l1, l2⟩ ⟨by grind, by grind⟩ (by grind) (by grind) (by grind) (by grind) (by grind) (by grind) (by grind)
    have bd := mul_bd (u := qv l) (v := qv (add f1 s)) (A := 1) (B := 3) (by grind) (by grind) (by grind) (by grind)
    obtain ⟨w0, w1, w2⟩ := mul_n lF u0 (by grind) (by grind)
    have em : m2F l s = mul l (add f1 s) := by unfold m2F; rw [if_pos hb]
    have nv : (a + c) / 2 * (1 + S) = c := by grind
    rw [nv] at nm
    obtain ⟨n1, n2⟩ := nm
    rw [← em] at w0 w1 w2
    obtain ⟨d0, d1, d2⟩ := mul_n k2 lF (by rw [k2v]; grind) (by rw [k2v]; grind)
    rw [k2v] at d1 d2
    obtain ⟨e0, e1, e2⟩ := sub_n d0 w0 (by grind) (by grind)
    rw [show sub (mul f2 l) (m2F l s) = m1F l s from rfl] at e0 e1 e2
    exact ⟨⟨by rw [hl, hs']; exact e0, by rw [hl, hs']; constructor <;> grind⟩, ⟨by rw [hl, hs']; exact w0, by rw [hl, hs']; constructor <;> grind⟩, by rw [hs']; exact sF, by rw [hs']; grind⟩
  · have hb := mt le.mp hc
    have es : shareF r g b = div (sub (maxF r g b) (minF r g b)) (sub (sub f2 (maxF r g b)) (minF r g b)) := by unfold shareF; rw [hl, if_neg hb]
    obtain ⟨sF, s1, s2⟩ := div_n (E := (c - a) / (2 - c - a)) hr.1 ht.1 (by rw [tv]; grind) (by rw [tv, rv, div_mul' (by grind)])
      (by have := le_of_div (x := c - a) (y := 2 - c - a) (by grind) (by grind); grind) (by have := nonneg_div (x := c - a) (y := 2 - c - a) (by grind) (by grind); grind)
    have b1 := le_of_div (x := c - a) (y := 2 - c - a) (by grind) (by grind)
    have b0 := nonneg_div (x := c - a) (y := 2 - c - a) (by grind) (by grind)
    have bm : (c - a) / (2 - c - a) * (2 - c - a) = c - a := div_mul' (by grind)
    have bpos : 1 / 68719476736 ≤ (c - a) / (2 - c - a) := by
      refine Rat.le_of_mul_le_mul_right (c := 2 - c - a) ?_ (by grind)
      rw [bm]; grind
    rw [← es] at sF s1 s2
    generalize hs' : shareF r g b = s at *
    generalize (c - a) / (2 - c - a) = S at *
    obtain ⟨u0, u1, u2⟩ := add_n lF sF (by grind) (by grind)
    have nm := nr_mul (x := qv l) (a := (a + c) / 2) (e := ep) (y := qv s) (b := S) (f := ep) (X := 2) (Y := 1) (c := 3 * ep) ⟨l1, l2⟩ ⟨by grind, by grind⟩ (by grind) (by grind) (by grind) (by grind) (by grind) (by grind) (by grind)
    have bd := mul_bd (u := qv l) (v := qv s) (A := 2) (B := 2) (by grind) (by grind) (by grind) (by grind)
    obtain ⟨w0, w1, w2⟩ := mul_n lF sF (by grind) (by grind)
    obtain ⟨n1, n2⟩ := nm
    have bd2 := mul_bd (u := (a + c) / 2) (v := S) (A := 1) (B := 1) (by grind) (by grind) (by grind) (by grind)
    have nv : (a + c) / 2 + S - (a + c) / 2 * S = c := by grind
    generalize (a + c) / 2 * S = z at *
    obtain ⟨x0, x1, x2⟩ := sub_n u0 w0 (by grind) (by grind)
    have em : m2F l s = sub (add l s) (mul l s) := by unfold m2F; rw [if_neg hb]
    rw [← em] at x0 x1 x2
    generalize qv l * qv s = y at *
    obtain ⟨d0, d1, d2⟩ := mul_n k2 lF (by rw [k2v]; grind) (by rw [k2v]; grind)
    rw [k2v] at d1 d2
    have y1 : -(8 * ep) ≤ qv (m2F l s) - c := by grind
    have y2 : qv (m2F l s) - c ≤ 8 * ep := by grind
    obtain ⟨e0, e1, e2⟩ := sub_n d0 x0 (by grind) (by grind)
    rw [show sub (mul f2 l) (m2F l s) = m1F l s from rfl] at e0 e1 e2
    exact ⟨⟨by rw [hl, hs']; exact e0, by rw [hl, hs']; constructor <;> grind⟩, ⟨by rw [hl, hs']; exact x0, by rw [hl, hs']; constructor <;> grind⟩, by rw [hs']; exact sF, by rw [hs']; grind⟩
end Mine
end
/-! part FL7 -/
section
open PySem PySem.Float64
set_option linter.unusedVariables false
set_option exponentiation.threshold 3000
namespace Mine
/-- the wheel in whole parts -/
def YI (k F N : Int) : Int := if k % 6 = 0 then F else if k % 6 = 1 then N else if k % 6 = 2 then N else if k % 6 = 3 then N - F else 0
theorem rsub_mul (a b c : Rat) : (a - b) * c = a * c - b * c := by grind
theorem YI_Y {k F N : Int} (hN : 0 < N) : (YI k F N : Rat) = (N : Rat) * Y k ((F : Rat) / N) := by
  have h : (N : Rat) ≠ 0 := by
    have := rat_lt_of hN
    rw [show ((0 : Int) : Rat) = 0 from rfl] at this; grind
  have e : (F : Rat) / N * N = F := div_mul' h
  unfold YI Y
  split
  · rw [Rat.mul_comm, e]
  · split
    · grind
    · split
      · grind
      · split
        · rw [Rat.intCast_sub]
          generalize (F : Rat) / N = x at *; grind
        · rw [show ((0 : Int) : Rat) = 0 from rfl]; grind
theorem off_near {r g b : UInt64} {p q t m M : Int} (C : Col r g b p q t m M) (hlt : m < M) {x : UInt64} {n : Int} (hx : G x n) (h1 : m ≤ n) (h2 : n ≤ M) :
    IsF (offF r g b x) ∧ Nr (qv (offF r g b x)) ((M - n : Int) / ((M - m : Int) : Rat)) ep ∧ 0 ≤ (M - n : Int) / ((M - m : Int) : Rat) ∧ (M - n : Int) / ((M - m : Int) : Rat) ≤ 1 := by
  have m0 := C.m0; have M1 := C.M1
  have hr := C.gM.sub C.gm (by omega)
  have hn := C.gM.sub hx (by omega)
  have hp := rat_lt_of (show 0 < M - m by omega)
  rw [show ((0 : Int) : Rat) = 0 from rfl] at hp
  have a1 := rat_le_of (show 0 ≤ M - n by omega)
  rw [show ((0 : Int) : Rat) = 0 from rfl] at a1
  have a2 := rat_le_of (show M - n ≤ M - m by omega)
  have g1 := le_of_div hp a2
  have g0 := nonneg_div hp a1
  have hm := div_mul' (x := ((M - n : Int) : Rat)) (y := ((M - m : Int) : Rat)) (by grind)
  have rv := hr.val
  have nv := hn.val
  unfold offF
  generalize ((M - n : Int) : Rat) = u at *
  generalize ((M - m : Int) : Rat) = v at *
  rw [p35] at *
  have hd := div_n (E := u / v) hn.1 hr.1 (by rw [rv]; grind) (by rw [rv, nv]; grind) (by grind) (by grind)
  exact ⟨hd.1, hd.2, g0, g1⟩
/-- what the hue is -/
def HueIs (h : UInt64) (p q t m M : Int) (e : Rat) : Prop :=
  ∃ k F n : Int, 0 ≤ F ∧ F ≤ M - m ∧ p = m + YI (k + 2) F (M - m) ∧ q = m + YI k F (M - m) ∧ t = m + YI (k - 2) F (M - m) ∧ IsF h ∧ -1 ≤ qv h ∧ qv h ≤ 2 ∧ Nr (qv h) (((k : Rat) + (F : Rat) / ((M - m : Int) : Rat)) / 6 - n) e
theorem hue_end {x : UInt64} (hx : IsF x) {p q t m M k F : Int} {v : Rat} (h0 : 0 ≤ F) (h1 : F ≤ M - m) (e1 : p = m + YI (k + 2) F (M - m)) (e2 : q = m + YI k F (M - m)) (e3 : t = m + YI (k - 2) F (M - m))
    (hv : v = (k : Rat) + (F : Rat) / ((M - m : Int) : Rat)) (lo : -2 ≤ v) (hi : v ≤ 6) (nx : Nr (qv x) v (4 * ep)) : HueIs (divmod (div x f6) f1).snd p q t m M (4 * ep) := by
  have hp := ep_pos
  have hq := ep_lt
  obtain ⟨k6, k6v⟩ := k_six
  obtain ⟨n1, n2⟩ := nx
  obtain ⟨dF, d1, d2⟩ := div_n (E := qv x / 6) hx k6 (by rw [k6v]; grind) (by rw [k6v]; grind) (by grind) (by grind)
  obtain ⟨tF, l1, l2, n, u1, u2⟩ := mod_one dF
  refine ⟨k, F, n, h0, h1, e1, e2, e3, tF, by grind, by grind, ?_⟩
  rw [← hv]
  constructor <;> grind
theorem hue_near {r g b : UInt64} {p q t m M : Int} (C : Col r g b p q t m M) (hlt : m < M) : HueIs (hueF r g b) p q t m M (4 * ep) := by
  have hp := ep_pos
  have hq := ep_lt
  have em := C.em; have eM := C.eM
  have bp : m ≤ p ∧ p ≤ M := ⟨(min3_at em).1, (max3_at eM).1⟩
  have bq : m ≤ q ∧ q ≤ M := ⟨(min3_at em).2.1, (max3_at eM).2.1⟩
  have bt : m ≤ t ∧ t ≤ M := ⟨(min3_at em).2.2, (max3_at eM).2.2⟩
  obtain ⟨r0, ⟨r1, r2⟩, r3, r4⟩ := off_near C hlt C.gr bp.1 bp.2
  obtain ⟨g0, ⟨g1, g2⟩, g3, g4⟩ := off_near C hlt C.gg bq.1 bq.2
  obtain ⟨b0, ⟨b1, b2⟩, b3, b4⟩ := off_near C hlt C.gb bt.1 bt.2
  obtain ⟨k2, k2v⟩ := k_two
  obtain ⟨k4, k4v⟩ := k_four
  have hN := rat_lt_of (show 0 < M - m by omega)
  rw [show ((0 : Int) : Rat) = 0 from rfl] at hN
  have e1 := C.gr.eq C.gM
  have e2 := C.gg.eq C.gM
  have dv : ∀ {x y : Rat}, x * ((M - m : Int) : Rat) = y → x = y / ((M - m : Int) : Rat) := by
    intro x y h
    have h' := div_mul' (x := y) (y := ((M - m : Int) : Rat)) (by grind)
    have h0 : (x - y / ((M - m : Int) : Rat)) * ((M - m : Int) : Rat) = 0 := by grind
    rcases Rat.mul_eq_zero.mp h0 with h | h <;> grind
  have mp := div_mul' (x := ((M - p : Int) : Rat)) (y := ((M - m : Int) : Rat)) (by grind)
  have mq := div_mul' (x := ((M - q : Int) : Rat)) (y := ((M - m : Int) : Rat)) (by grind)
  have mt' := div_mul' (x := ((M - t : Int) : Rat)) (y := ((M - m : Int) : Rat)) (by grind)
  have fin : ∀ {F k : Int} {v : Rat}, (v - k) * ((M - m : Int) : Rat) = (F : Rat) → v = (k : Rat) + (F : Rat) / ((M - m : Int) : Rat) := by
    intro F k v h
    have := dv h
    grind
  unfold hueF
  by_cases c1 : (cmp r (maxF r g b) == some .eq) = true
  · rw [if_pos c1]
    have hpM := e1.mp c1
    obtain ⟨s0, s1, s2⟩ := sub_n b0 g0 (by grind) (by grind)
    by_cases c : t ≤ q
    · have ht : t = m := min_t em (hpM ▸ bt.2) c
      refine hue_end (k := 0) (F := q - m) (v := ((M - t : Int) : Rat) / ((M - m : Int) : Rat) - ((M - q : Int) : Rat) / ((M - m : Int) : Rat)) s0 (by omega) (by omega) ?_ ?_ ?_ ?_ (by grind) (by grind) ⟨by grind, by grind⟩
      · rw [show YI (0 + 2) (q - m) (M - m) = M - m from rfl]; omega
      · rw [show YI 0 (q - m) (M - m) = q - m from rfl]; omega
      · rw [show YI (0 - 2) (q - m) (M - m) = 0 from rfl]; omega
      · refine fin ?_
        rw [rsub_mul, rsub_mul, mt', mq]
        subst ht
        simp only [Rat.intCast_sub, show ((0 : Int) : Rat) = 0 from rfl]
        grind
    · have ht : q = m := min_q em (hpM ▸ bq.2) (Int.le_of_lt (Int.not_le.mp c))
      refine hue_end (k := -1) (F := M - t) (v := ((M - t : Int) : Rat) / ((M - m : Int) : Rat) - ((M - q : Int) : Rat) / ((M - m : Int) : Rat)) s0 (by omega) (by omega) ?_ ?_ ?_ ?_ (by grind) (by grind) ⟨by grind, by grind⟩
      · rw [show YI (-1 + 2) (M - t) (M - m) = M - m from rfl]; omega
      · rw [show YI (-1) (M - t) (M - m) = 0 from rfl]; omega
      · rw [show YI (-1 - 2) (M - t) (M - m) = M - m - (M - t) from rfl]; omega
      · refine fin ?_
        rw [rsub_mul, rsub_mul, mt', mq]
        subst ht
        simp only [Rat.intCast_sub, show ((-1 : Int) : Rat) = -1 from rfl]
        grind
  · rw [if_neg c1]
    have hpM := mt e1.mpr c1
    by_cases c2 : (cmp g (maxF r g b) == some .eq) = true
    · rw [if_pos c2]
      have hqM := e2.mp c2
      obtain ⟨s0, s1, s2⟩ := add_n k2 r0 (by rw [k2v]; grind) (by rw [k2v]; grind)
      rw [k2v] at s1 s2
      obtain ⟨u0, u1, u2⟩ := sub_n s0 b0 (by grind) (by grind)
      by_cases c : p ≤ t
      · have ht : p = m := min_p em (hqM ▸ bp.2) c
        refine hue_end (k := 2) (F := t - m) (v := 2 + ((M - p : Int) : Rat) / ((M - m : Int) : Rat) - ((M - t : Int) : Rat) / ((M - m : Int) : Rat)) u0 (by omega) (by omega) ?_ ?_ ?_ ?_ (by grind) (by grind) ⟨by grind, by grind⟩
        · rw [show YI (2 + 2) (t - m) (M - m) = 0 from rfl]; omega
        · rw [show YI 2 (t - m) (M - m) = M - m from rfl]; omega
        · rw [show YI (2 - 2) (t - m) (M - m) = t - m from rfl]; omega
        · refine fin ?_
          rw [rsub_mul, rsub_mul, Rat.add_mul, mt', mp]
          subst ht
          simp only [Rat.intCast_sub, show ((2 : Int) : Rat) = 2 from rfl]
          grind
      · have ht : t = m := min_t em (Int.le_of_lt (Int.not_le.mp c)) (hqM ▸ bt.2)
        refine hue_end (k := 1) (F := M - p) (v := 2 + ((M - p : Int) : Rat) / ((M - m : Int) : Rat) - ((M - t : Int) : Rat) / ((M - m : Int) : Rat)) u0 (by omega) (by omega) ?_ ?_ ?_ ?_ (by grind) (by grind) ⟨by grind, by grind⟩
        · rw [show YI (1 + 2) (M - p) (M - m) = M - m - (M - p) from rfl]; omega
        · rw [show YI 1 (M - p) (M - m) = M - m from rfl]; omega
        · rw [show YI (1 - 2) (M - p) (M - m) = 0 from rfl]; omega
        · refine fin ?_
          rw [rsub_mul, rsub_mul, Rat.add_mul, mt', mp]
          subst ht
          simp only [Rat.intCast_sub, show ((1 : Int) : Rat) = 1 from rfl]
          grind
    · rw [if_neg c2]
      have hqM := mt e2.mpr c2
      have htM : t = M := max_t eM hpM hqM
      obtain ⟨s0, s1, s2⟩ := add_n k4 g0 (by rw [k4v]; grind) (by rw [k4v]; grind)
      rw [k4v] at s1 s2
      obtain ⟨u0, u1, u2⟩ := sub_n s0 r0 (by grind) (by grind)
      by_cases c : q ≤ p
      · have ht : q = m := min_q em c (htM ▸ bq.2)
        refine hue_end (k := 4) (F := p - m) (v := 4 + ((M - q : Int) : Rat) / ((M - m : Int) : Rat) - ((M - p : Int) : Rat) / ((M - m : Int) : Rat)) u0 (by omega) (by omega) ?_ ?_ ?_ ?_ (by grind) (by grind) ⟨by grind, by grind⟩
        · rw [show YI (4 + 2) (p - m) (M - m) = p - m from rfl]; omega
        · rw [show YI 4 (p - m) (M - m) = 0 from rfl]; omega
        · rw [show YI (4 - 2) (p - m) (M - m) = M - m from rfl]; omega
        · refine fin ?_
          rw [rsub_mul, rsub_mul, Rat.add_mul, mq, mp]
          subst ht
          simp only [Rat.intCast_sub, show ((4 : Int) : Rat) = 4 from rfl]
          grind
      · have ht : p = m := min_p em (Int.le_of_lt (Int.not_le.mp c)) (htM ▸ bp.2)
        refine hue_end (k := 3) (F := M - q) (v := 4 + ((M - q : Int) : Rat) / ((M - m : Int) : Rat) - ((M - p : Int) : Rat) / ((M - m : Int) : Rat)) u0 (by omega) (by omega) ?_ ?_ ?_ ?_ (by grind) (by grind) ⟨by grind, by grind⟩
        · rw [show YI (3 + 2) (M - q) (M - m) = 0 from rfl]; omega
        · rw [show YI 3 (M - q) (M - m) = M - m - (M - q) from rfl]; omega
        · rw [show YI (3 - 2) (M - q) (M - m) = M - m from rfl]; omega
        · refine fin ?_
          rw [rsub_mul, rsub_mul, Rat.add_mul, mq, mp]
          subst ht
          simp only [Rat.intCast_sub, show ((3 : Int) : Rat) = 3 from rfl]
          grind
end Mine
end
/-! part FL8 -/
section
open PySem PySem.Float64
set_option linter.unusedVariables false
set_option exponentiation.threshold 3000
namespace Mine
theorem k_35 : IsF (Float64.ofInt c35) ∧ qv (Float64.ofInt c35) = 2 ^ 35 := by
  have h := qv_dec (x := Float64.ofInt c35) (a := false) (m := 4503599627370496) (k := 17) (by decide) (by decide +kernel)
  refine ⟨h.1, ?_⟩
  have := h.2; unfold sgn at this; simp at this; grind
theorem scale_val {x : UInt64} (hx : IsF x) {J : Int} (h0 : 0 ≤ J) (h1 : J < 2 ^ 35) (n : Nr (qv x) ((J : Rat) / 2 ^ 35) (400 * ep)) : isFinite (scaleF x) = true ∧ tI x = J := by
  have hp := ep_pos
  have hq : ep * 1125899906842624 = 1 := by unfold ep; grind
  obtain ⟨k1, k2⟩ := k_35
  obtain ⟨f1', f2'⟩ := k_half
  have j0 := rat_le_of h0
  have j1 := rat_lt_of h1
  rw [show (((2 ^ 35 : Int)) : Rat) = 34359738368 from rfl] at j1
  rw [show ((0 : Int) : Rat) = 0 from rfl] at j0
  rw [p35] at n k2
  obtain ⟨n1, n2⟩ := n
  have e36 : (2 : Rat) ^ 36 = 68719476736 := by grind
  have e3653 : (2 : Rat) ^ 36 / 2 ^ 53 = 1 / 131072 := by grind
  have hm := mul_near k1 hx 36 (by decide) (by rw [k2, e36]; grind) (by rw [k2, e36]; grind)
  rw [k2, e3653] at hm
  obtain ⟨m0, m1, m2⟩ := hm
  have ha := add_near m0 f1' 36 (by decide) (by rw [f2', e36]; grind) (by rw [f2', e36]; grind)
  rw [f2', e3653] at ha
  obtain ⟨a0, a1, a2⟩ := ha
  have b1 : (J : Rat) + 1 / 4 ≤ qv (scaleF x) := by show _ ≤ qv (add (mul _ x) fHalf); grind
  have b2 : qv (scaleF x) ≤ (J : Rat) + 3 / 4 := by show qv (add (mul _ x) fHalf) ≤ _; grind
  exact ⟨isFinite_of a0, trunc_is a0 h0 (by grind) (by grind) (by grind)⟩
theorem six_near {s : Int} (h0 : 0 ≤ s) (h5 : s ≤ 5) : IsF (FD s 6) ∧ Nr (qv (FD s 6)) ((s : Rat) / 6) ep := by
  unfold FD
  rw [show (6 : Int).natAbs = 6 from rfl, show decide ((6 : Int) < 0) = false by decide, show decide (s < 0) = false by simpa using h0]
  have j0 := rat_le_of h0
  have j1 := rat_le_of h5
  rw [show ((0 : Int) : Rat) = 0 from rfl] at j0
  rw [show ((5 : Int) : Rat) = 5 from rfl] at j1
  have := frac_near (neg := (false != false)) (n := s.natAbs) (d := 6) (by decide) 3 (by decide) (E := (s : Rat) / 6) (by
    rw [show (((6 : Nat)) : Rat) = 6 from rfl, div_mul' (by decide)]
    unfold sgn
    simp
    omega) (by grind) (by grind)
  rw [ep8] at this
  exact this
theorem chan_val {m1 m2 hue : UInt64} {m M k F n : Int} (h1 : IsF m1 ∧ Nr (qv m1) ((m : Rat) / 2 ^ 35) (12 * ep)) (h2 : IsF m2 ∧ Nr (qv m2) ((M : Rat) / 2 ^ 35) (12 * ep)) (hh : IsF hue) (m0 : 0 ≤ m) (mM : m < M) (M1 : M < 2 ^ 35)
    (f0 : 0 ≤ F) (f1 : F ≤ M - m) (nh : Nr (qv hue) (((k : Rat) + (F : Rat) / ((M - m : Int) : Rat)) / 6 - n) (20 * ep)) :
    isFinite (scaleF (vF m1 m2 hue)) = true ∧ tI (vF m1 m2 hue) = m + YI k F (M - m) := by
  have hN := rat_lt_of (show 0 < M - m by omega)
  rw [show ((0 : Int) : Rat) = 0 from rfl] at hN
  have g0 := rat_le_of f0
  have g1 := rat_le_of f1
  rw [show ((0 : Int) : Rat) = 0 from rfl] at g0
  have c0 := nonneg_div hN g0
  have c1 := le_of_div hN g1
  have i0 := rat_le_of m0
  have i1 := rat_lt_of mM
  have i2 := rat_lt_of M1
  rw [show (((2 ^ 35 : Int)) : Rat) = 34359738368 from rfl] at i2
  rw [show ((0 : Int) : Rat) = 0 from rfl] at i0
  have hv := v_near (f := (F : Rat) / ((M - m : Int) : Rat)) h1.1 h2.1 hh h1.2 h2.2 (by rw [p35]; grind) (by rw [p35]; grind) (by rw [p35]; grind) c0 c1 nh
  have hy := YI_Y (k := k) (F := F) (show 0 < M - m by omega)
  have bY : 0 ≤ YI k F (M - m) ∧ YI k F (M - m) ≤ M - m := by unfold YI; repeat' split
                                                              all_goals omega
  refine scale_val hv.1 (by omega) (by omega) ?_
  have e : ((m + YI k F (M - m) : Int) : Rat) / 2 ^ 35 = (m : Rat) / 2 ^ 35 + ((M : Rat) / 2 ^ 35 - (m : Rat) / 2 ^ 35) * Y k ((F : Rat) / ((M - m : Int) : Rat)) := by
    rw [Rat.intCast_add, hy, p35, Rat.intCast_sub]
    generalize Y k _ = y
    grind
  rw [e]
  exact hv.2
theorem nr_mono {x v e f : Rat} (h : Nr x v e) (hf : e ≤ f) : Nr x v f := ⟨by have := h.lo; grind, by have := h.hi; grind⟩
theorem nb_s {m M : Int} (h0 : 0 ≤ m) (h : m ≤ M) (h1 : M < 2 ^ 35) : (M + m).natAbs ≤ 2 ^ 53 := by omega
theorem nb_d {m M : Int} (h0 : 0 ≤ m) (h : m ≤ M) (h1 : M < 2 ^ 35) : (M - m).natAbs ≤ 2 ^ 53 := by omega
theorem nb_1 {m M : Int} (h0 : 0 ≤ m) (h : m ≤ M) (h1 : M < 2 ^ 35) : (2 ^ 36 - M).natAbs ≤ 2 ^ 53 := by omega
theorem nb_2 {m M : Int} (h0 : 0 ≤ m) (h : m ≤ M) (h1 : M < 2 ^ 35) : (2 ^ 36 - M - m).natAbs ≤ 2 ^ 53 := by omega
theorem nb_n {m M : Int} (h0 : 0 ≤ m) (h : m < M) (h1 : M < 2 ^ 35) : M - m ≠ 0 ∧ M + m ≠ 0 ∧ 2 ^ 36 - M - m ≠ 0 := by
  refine ⟨?_, ?_, ?_⟩ <;> omega
/-- the turned colour: rgb_to_hls, a turn by sixths, hls_to_rgb, the rounding -/
structure TurnIs (p q t s : Int) : Prop where
  ok : TurnOk (FD p c35) (FD q c35) (FD t c35) s
  val : ∃ k F : Int, 0 ≤ F ∧ F ≤ max3 p q t - min3 p q t ∧
    p = min3 p q t + YI (k + 2) F (max3 p q t - min3 p q t) ∧ q = min3 p q t + YI k F (max3 p q t - min3 p q t) ∧ t = min3 p q t + YI (k - 2) F (max3 p q t - min3 p q t) ∧
    tI (tnR (FD p c35) (FD q c35) (FD t c35) s) = min3 p q t + YI (k + s + 2) F (max3 p q t - min3 p q t) ∧
    tI (tnG (FD p c35) (FD q c35) (FD t c35) s) = min3 p q t + YI (k + s) F (max3 p q t - min3 p q t) ∧
    tI (tnB (FD p c35) (FD q c35) (FD t c35) s) = min3 p q t + YI (k + s - 2) F (max3 p q t - min3 p q t)
theorem turn_is {p q t s : Int} (h0 : 0 ≤ min3 p q t) (h1 : max3 p q t < 2 ^ 35) (s0 : 0 ≤ s) (s5 : s ≤ 5) : TurnIs p q t s := by
  have C := col_of h0 h1
  have hp := ep_pos
  have hq := ep_lt
  have hmM := C.mM
  generalize em : min3 p q t = m at *
  generalize eM : max3 p q t = M at *
  generalize er : FD p c35 = r at *
  generalize eg : FD q c35 = g at *
  generalize eb : FD t c35 = b at *
  have ce := C.gm.eq C.gM
  have cb : (cmp (minF r g b) (maxF r g b) == some .eq) = decide (m = M) := by
    by_cases h : m = M
    · rw [ce.mpr h]; simp [h]
    · have := mt ce.mp h; simp only [Bool.not_eq_true] at this; rw [this]; simp [h]
  obtain ⟨l0, l1⟩ := light_near C
  by_cases h : m = M
  · subst h
    have cz : (cmp (0 : UInt64) 0 == some .eq) = true := by decide +kernel
    have hS : hlsS r g b = 0 := by unfold hlsS; rw [cb]; simp
    have n : Nr (qv (lightF r g b)) ((m : Rat) / 2 ^ 35) (400 * ep) := by
      obtain ⟨a1, a2⟩ := l1
      generalize (m : Rat) / 2 ^ 35 = z at *
      constructor <;> grind
    obtain ⟨v1, v2⟩ := scale_val l0 h0 h1 n
    have eR : tnR r g b s = lightF r g b := by unfold tnR outR; rw [hS, if_pos cz]
    have eG : tnG r g b s = lightF r g b := by unfold tnG outG; rw [hS, if_pos cz]
    have eB : tnB r g b s = lightF r g b := by unfold tnB outB; rw [hS, if_pos cz]
    have hY : ∀ k, YI k 0 (m - m) = 0 := by intro k; unfold YI; repeat' split
                                            all_goals omega
    have hpe : p = m ∧ q = m ∧ t = m := by
      obtain ⟨x1, x2, x3⟩ := min3_at em.symm
      obtain ⟨y1, y2, y3⟩ := max3_at eM.symm
      exact ⟨Int.le_antisymm y1 x1, Int.le_antisymm y2 x2, Int.le_antisymm y3 x3⟩
    refine ⟨?_, 0, 0, by omega, by rw [em, eM]; omega, ?_⟩
    · rw [er, eg, eb]
      refine ⟨fun hc => ?_, by rw [eR]; exact v1, by rw [eG]; exact v1, by rw [eB]; exact v1⟩
      rw [cb] at hc; simp at hc
    · rw [er, eg, eb, em, eM, eR, eG, eB, hY, hY, hY, hY, hY, hY, v2, Int.add_zero]
      exact ⟨hpe.1, hpe.2.1, hpe.2.2, rfl, rfl, rfl⟩
  · have hlt : m < M := by omega
    obtain ⟨⟨a0, a1⟩, ⟨c0, c1⟩, sF, spos⟩ := shade_near C hlt
    obtain ⟨k, F, n, f0, f1, e1, e2, e3, hF, hl, hh, hn⟩ := hue_near C hlt
    obtain ⟨x0, x1⟩ := six_near s0 s5
    have hH : hlsH r g b = hueF r g b := by unfold hlsH; rw [cb]; simp [h]
    have hS : hlsS r g b = shareF r g b := by unfold hlsS; rw [cb]; simp [h]
    have cs : ¬ (cmp (shareF r g b) 0 == some .eq) = true := by
      intro hc
      have := (cmp_eq sF k_zero.1).mp hc
      rw [k_zero.2] at this
      grind
    obtain ⟨t1, t2, t3⟩ := k_third
    have i0 := rat_le_of s0
    have i1 := rat_le_of s5
    rw [show ((0 : Int) : Rat) = 0 from rfl] at i0
    rw [show ((5 : Int) : Rat) = 5 from rfl] at i1
    obtain ⟨x2, x3⟩ := x1
    obtain ⟨u0, u1, u2⟩ := add_n hF x0 (by grind) (by grind)
    obtain ⟨y1, y2⟩ := hn
    obtain ⟨R0, R1, R2⟩ := add_n u0 t1 (by grind) (by grind)
    obtain ⟨B0, B1, B2⟩ := sub_n u0 t1 (by grind) (by grind)
    have ks : ((k + s : Int) : Rat) = (k : Rat) + s := Rat.intCast_add ..
    have ks2 : ((k + s + 2 : Int) : Rat) = (k : Rat) + s + 2 := by rw [Rat.intCast_add, ks]; rfl
    have ks3 : ((k + s - 2 : Int) : Rat) = (k : Rat) + s - 2 := by rw [Rat.intCast_sub, ks]; rfl
    have eR : tnR r g b s = vF (m1F (lightF r g b) (shareF r g b)) (m2F (lightF r g b) (shareF r g b)) (add (add (hueF r g b) (FD s 6)) fThird) := by unfold tnR outR; rw [hS, if_neg cs, hH]
    have eG : tnG r g b s = vF (m1F (lightF r g b) (shareF r g b)) (m2F (lightF r g b) (shareF r g b)) (add (hueF r g b) (FD s 6)) := by unfold tnG outG; rw [hS, if_neg cs, hH]
    have eB : tnB r g b s = vF (m1F (lightF r g b) (shareF r g b)) (m2F (lightF r g b) (shareF r g b)) (sub (add (hueF r g b) (FD s 6)) fThird) := by unfold tnB outB; rw [hS, if_neg cs, hH]
    have vR := chan_val (k := k + s + 2) (n := n) ⟨a0, a1⟩ ⟨c0, c1⟩ R0 h0 hlt h1 f0 f1 (by rw [ks2]; constructor <;> grind)
    have vG := chan_val (k := k + s) (n := n) ⟨a0, a1⟩ ⟨c0, c1⟩ u0 h0 hlt h1 f0 f1 (by rw [ks]; constructor <;> grind)
    have vB := chan_val (k := k + s - 2) (n := n) ⟨a0, a1⟩ ⟨c0, c1⟩ B0 h0 hlt h1 f0 f1 (by rw [ks3]; constructor <;> grind)
    refine ⟨?_, k, F, f0, by rw [em, eM]; exact f1, ?_⟩
    · rw [er, eg, eb]
      refine ⟨fun _ => ?_, by rw [eR]; exact vR.1, by rw [eG]; exact vG.1, by rw [eB]; exact vB.1⟩
      have m0 := C.m0; have M1 := C.M1
      have hs := C.gM.add C.gm (nb_s m0 hmM M1)
      have hr := C.gM.sub C.gm (nb_d m0 hmM M1)
      have ht := (G_two.sub C.gM (nb_1 m0 hmM M1)).sub C.gm (nb_2 m0 hmM M1)
      have nz : ∀ {x : UInt64} {z : Int}, G x z → z ≠ 0 → isZero x = false := by
        intro x z hx hz
        refine isZero_of fun h0 => hz ?_
        have := hx.2
        rw [h0] at this
        refine Rat.intCast_inj.mp ?_
        rw [← this, show ((0 : Int) : Rat) = 0 from rfl]; grind
      exact ⟨nz hr (nb_n m0 hlt M1).1, nz hs (nb_n m0 hlt M1).2.1, nz ht (nb_n m0 hlt M1).2.2⟩
    · rw [er, eg, eb, em, eM, eR, eG, eB]
      exact ⟨e1, e2, e3, vR.2, vG.2, vB.2⟩
end Mine
end
/-! part P1 -/
section
open PySem PySem.W PyProof.Rows
namespace Mine
/-! the lattice -/
abbrev Z2 := Int × Int
def T1 (z : Z2) : Z2 := (z.1 - z.2, z.1)
def U1 (z : Z2) : Z2 := (z.2, z.2 - z.1)
def Tn : Nat → Z2 → Z2
  | 0, z => z
  | n + 1, z => T1 (Tn n z)
def Un : Nat → Z2 → Z2
  | 0, z => z
  | n + 1, z => U1 (Un n z)
def mnZ (z : Z2) : Int := min3 z.1 z.2 0
def nrm (z : Z2) : Int := max3 z.1 z.2 0 - min3 z.1 z.2 0
def can (z : Z2) : Int × Int × Int := (z.1 - mnZ z, z.2 - mnZ z, - mnZ z)
theorem U1_T1 (z : Z2) : U1 (T1 z) = z := by unfold U1 T1; ext <;> simp <;> omega
theorem T1_U1 (z : Z2) : T1 (U1 z) = z := by unfold U1 T1; ext <;> simp <;> omega
theorem Un_U1 (n : Nat) (z : Z2) : Un n (U1 z) = U1 (Un n z) := by
  induction n with
  | zero => rfl
  | succ n ih => show U1 (Un n (U1 z)) = _; rw [ih]; rfl
theorem Tn_T1 (n : Nat) (z : Z2) : Tn n (T1 z) = T1 (Tn n z) := by
  induction n with
  | zero => rfl
  | succ n ih => show T1 (Tn n (T1 z)) = _; rw [ih]; rfl
theorem Un_Tn (n : Nat) (z : Z2) : Un n (Tn n z) = z := by
  induction n with
  | zero => rfl
  | succ n ih => show U1 (Un n (T1 (Tn n z))) = z; rw [← Un_U1, U1_T1, ih]
theorem Tn_Un (n : Nat) (z : Z2) : Tn n (Un n z) = z := by
  induction n with
  | zero => rfl
  | succ n ih => show T1 (Tn n (U1 (Un n z))) = z; rw [← Tn_T1, T1_U1, ih]
theorem min3_sh (a b c k : Int) : min3 (a + k) (b + k) (c + k) = min3 a b c + k := by unfold min3; rw [Int.min_add_right, Int.min_add_right]
theorem max3_sh (a b c k : Int) : max3 (a + k) (b + k) (c + k) = max3 a b c + k := by unfold max3; rw [Int.max_add_right, Int.max_add_right]
theorem min3_sb (a b c k : Int) : min3 (a - k) (b - k) (c - k) = min3 a b c - k := min3_sh a b c (-k)
theorem max3_sb (a b c k : Int) : max3 (a - k) (b - k) (c - k) = max3 a b c - k := max3_sh a b c (-k)
theorem mnZ_sh (a b c : Int) : mnZ (a - c, b - c) = min3 a b c - c := by
  have := min3_sb a b c c
  rw [Int.sub_self] at this; exact this
theorem nrm_sh (a b c : Int) : nrm (a - c, b - c) = max3 a b c - min3 a b c := by
  have h1 := min3_sb a b c c
  have h2 := max3_sb a b c c
  rw [Int.sub_self] at h1 h2
  show max3 (a - c) (b - c) 0 - min3 (a - c) (b - c) 0 = _
  rw [h1, h2]; generalize max3 a b c = M; generalize min3 a b c = N; omega
theorem sb_l {a b n : Int} (h : a - b ≤ n) : a - n ≤ b := Int.sub_left_le_of_le_add (Int.le_add_of_sub_right_le h)
theorem sb_r {a b n : Int} (h : -n ≤ a - b) : b - n ≤ a := by omega
theorem nrm_le {z : Z2} {n : Int} (h0 : 0 ≤ n) (h1 : z.1 ≤ n) (h2 : -n ≤ z.1) (h3 : z.2 ≤ n) (h4 : -n ≤ z.2) (h5 : z.1 - z.2 ≤ n) (h6 : -n ≤ z.1 - z.2) : nrm z ≤ n :=
  have s {a : Int} (h : a - n ≤ mnZ z) : a ≤ n + mnZ z := Int.le_add_of_sub_left_le h
  Int.sub_right_le_of_le_add (max3_le
    (s (le_min3 (Int.sub_le_self _ h0) (sb_l h5) (Int.sub_nonpos_of_le h1)))
    (s (le_min3 (sb_r h6) (Int.sub_le_self _ h0) (Int.sub_nonpos_of_le h3)))
    (s (le_min3 ((Int.zero_sub n).symm ▸ h2) ((Int.zero_sub n).symm ▸ h4) (Int.sub_nonpos_of_le h0))))
theorem mx_mn {a b M m : Int} (h1 : a ≤ M) (h2 : m ≤ b) : a - b ≤ M - m := Int.sub_le_sub h1 h2
theorem neg_mx {a b n : Int} (h : b - a ≤ n) : -n ≤ a - b := by omega
theorem nrm_ge (z : Z2) : 0 ≤ nrm z ∧ z.1 ≤ nrm z ∧ -nrm z ≤ z.1 ∧ z.2 ≤ nrm z ∧ -nrm z ≤ z.2 ∧ z.1 - z.2 ≤ nrm z ∧ -nrm z ≤ z.1 - z.2 := by
  obtain ⟨a, b, c⟩ := min3_le z.1 z.2 0
  obtain ⟨d, e, f⟩ := le_max3 z.1 z.2 0
  have h2 := mx_mn d c
  have h3 := neg_mx (mx_mn f a)
  have h4 := mx_mn e c
  have h5 := neg_mx (mx_mn f b)
  rw [Int.sub_zero] at h2 h3 h4 h5
  exact ⟨mx_mn f c, h2, h3, h4, h5, mx_mn d b, neg_mx (mx_mn e a)⟩
theorem T1_le (z : Z2) : nrm (T1 z) ≤ nrm z := by
  obtain ⟨h0, h1, h2, h3, h4, h5, h6⟩ := nrm_ge z
  exact nrm_le h0 h5 h6 h1 h2 (by show z.1 - z.2 - z.1 ≤ _; omega) (by show _ ≤ z.1 - z.2 - z.1; omega)
theorem U1_le (z : Z2) : nrm (U1 z) ≤ nrm z := by
  obtain ⟨h0, h1, h2, h3, h4, h5, h6⟩ := nrm_ge z
  exact nrm_le h0 h3 h4 (by show z.2 - z.1 ≤ _; omega) (neg_mx h5) (by show z.2 - (z.2 - z.1) ≤ _; rw [Int.sub_sub_self]; exact h1) (by show _ ≤ z.2 - (z.2 - z.1); rw [Int.sub_sub_self]; exact h2)
theorem nrm_T1 (z : Z2) : nrm (T1 z) = nrm z := Int.le_antisymm (T1_le z) (by have := U1_le (T1 z); rwa [U1_T1] at this)
theorem nrm_U1 (z : Z2) : nrm (U1 z) = nrm z := Int.le_antisymm (U1_le z) (by have := T1_le (U1 z); rwa [T1_U1] at this)
theorem nrm_Tn (n : Nat) (z : Z2) : nrm (Tn n z) = nrm z := by
  induction n with
  | zero => rfl
  | succ n ih => show nrm (T1 (Tn n z)) = _; rw [nrm_T1, ih]
theorem nrm_Un (n : Nat) (z : Z2) : nrm (Un n z) = nrm z := by
  induction n with
  | zero => rfl
  | succ n ih => show nrm (U1 (Un n z)) = _; rw [nrm_U1, ih]
theorem nrm_nonneg (z : Z2) : 0 ≤ nrm z := (nrm_ge z).1
theorem nrm_zero {z : Z2} (h : nrm z ≤ 0) : z = (0, 0) := by
  obtain ⟨h0, h1, h2, h3, h4, _, _⟩ := nrm_ge z
  have e := Int.le_antisymm h h0
  rw [e] at h1 h2 h3 h4
  exact Prod.ext (Int.le_antisymm h1 h2) (Int.le_antisymm h3 h4)
def shz (d : Nat) : Z2 := (shT d 0 - shT d 2, shT d 1 - shT d 2)
def stepUp (s : Nat) (z : Z2) (d : Nat) : Z2 := (4 * (Tn s z).1 + (shz d).1, 4 * (Tn s z).2 + (shz d).2)
def hz (s : Nat) (ds : List Nat) : Z2 := ds.foldl (stepUp s) (0, 0)
def fitP (z : Z2) (n : Nat) : Bool := (Int.fmod (z.1 - shT n 0 + shT n 2) 4 == 0) && (Int.fmod (z.2 - shT n 1 + shT n 2) 4 == 0)
def fits (z : Z2) : List Nat := (List.range 16).filter (fitP z)
def fit (z : Z2) : Nat := (fits z).headD 0
def lowZ (z : Z2) (d : Nat) : Z2 := (Int.fdiv (z.1 - shT d 0 + shT d 2) 4, Int.fdiv (z.2 - shT d 1 + shT d 2) 4)
def down (s : Nat) (z : Z2) : Z2 := Un s (lowZ z (fit z))
def numb (s : Nat) : Nat → Z2 → Int
  | 0, _ => 0
  | k + 1, z => if z = (0, 0) then 0 else (fit z : Int) + 16 * numb s k (down s z)
theorem sh_mod {x y a b : Int} (h : x % 4 = y % 4) : (x - a + b) % 4 = (y - a + b) % 4 := by
  rw [Int.add_emod, Int.sub_emod x, h, ← Int.sub_emod, ← Int.add_emod]
theorem fitP_mod (z y : Z2) (h1 : z.1 % 4 = y.1 % 4) (h2 : z.2 % 4 = y.2 % 4) (n : Nat) : fitP z n = fitP y n := by
  have e1 : (Int.fmod (z.1 - shT n 0 + shT n 2) 4 == 0) = (Int.fmod (y.1 - shT n 0 + shT n 2) 4 == 0) := by
    rw [Int.fmod_eq_emod_of_nonneg _ (by decide), Int.fmod_eq_emod_of_nonneg _ (by decide)]
    generalize shT n 0 = a; generalize shT n 2 = b
    rw [sh_mod h1]
  have e2 : (Int.fmod (z.2 - shT n 1 + shT n 2) 4 == 0) = (Int.fmod (y.2 - shT n 1 + shT n 2) 4 == 0) := by
    rw [Int.fmod_eq_emod_of_nonneg _ (by decide), Int.fmod_eq_emod_of_nonneg _ (by decide)]
    generalize shT n 1 = a; generalize shT n 2 = b
    rw [sh_mod h2]
  unfold fitP
  rw [e1, e2]
theorem fits_mod (z y : Z2) (h1 : z.1 % 4 = y.1 % 4) (h2 : z.2 % 4 = y.2 % 4) : fits z = fits y := by
  unfold fits; congr 1; funext n; exact fitP_mod z y h1 h2 n
theorem fits_small : ∀ a : Nat, a < 4 → ∀ b : Nat, b < 4 → (fits ((a : Int), (b : Int))).length = 1 := by decide +kernel
theorem fits_sh : ∀ d : Nat, d < 16 → fits (shz d) = [d] := by decide +kernel
theorem fits_one (z : Z2) : ∃ d, d < 16 ∧ fits z = [d] ∧ fit z = d := by
  have h := fits_small (z.1 % 4).toNat (by omega) (z.2 % 4).toNat (by omega)
  have e := fits_mod z (((z.1 % 4).toNat : Int), ((z.2 % 4).toNat : Int)) (by simp only; omega) (by simp only; omega)
  rw [← e] at h
  obtain ⟨d, hd⟩ := List.length_eq_one_iff.mp h
  refine ⟨d, ?_, hd, by unfold fit; rw [hd]; rfl⟩
  have : d ∈ fits z := by rw [hd]; exact .head _
  unfold fits at this
  exact List.mem_range.mp (List.mem_filter.mp this).1
theorem fit_lt (z : Z2) : fit z < 16 := let ⟨d, h, _, e⟩ := fits_one z; e ▸ h
theorem fit_fits (z : Z2) : fitP z (fit z) = true := by
  obtain ⟨d, _, h, e⟩ := fits_one z
  have : d ∈ fits z := by rw [h]; exact .head _
  unfold fits at this
  rw [e]; exact (List.mem_filter.mp this).2
theorem fit_up (s : Nat) (z : Z2) {d : Nat} (hd : d < 16) : fit (stepUp s z d) = d := by
  unfold fit
  rw [fits_mod (stepUp s z d) (shz d) (by unfold stepUp; simp only; omega) (by unfold stepUp; simp only; omega), fits_sh d hd]; rfl
theorem down_up (s : Nat) (z : Z2) {d : Nat} (hd : d < 16) : down s (stepUp s z d) = z := by
  have : lowZ (stepUp s z d) d = Tn s z := by
    unfold lowZ stepUp shz
    simp only
    rw [Int.fdiv_eq_ediv_of_nonneg _ (by decide), Int.fdiv_eq_ediv_of_nonneg _ (by decide)]
    ext <;> simp only <;> omega
  unfold down
  rw [fit_up s z hd, this, Un_Tn]
theorem lowZ_eq (z : Z2) : 4 * (lowZ z (fit z)).1 = z.1 - (shz (fit z)).1 ∧ 4 * (lowZ z (fit z)).2 = z.2 - (shz (fit z)).2 := by
  have h := fit_fits z
  unfold fitP at h
  unfold lowZ shz
  rw [Int.fmod_eq_emod_of_nonneg _ (by decide), Int.fmod_eq_emod_of_nonneg _ (by decide)] at h
  simp only [Bool.and_eq_true, beq_iff_eq] at h
  simp only
  rw [Int.fdiv_eq_ediv_of_nonneg _ (by decide), Int.fdiv_eq_ediv_of_nonneg _ (by decide)]
  omega
theorem up_down (s : Nat) (z : Z2) : stepUp s (down s z) (fit z) = z := by
  have := lowZ_eq z
  unfold stepUp down
  rw [Tn_Un]
  ext <;> simp only <;> omega
theorem shz_nrm : ∀ d : Nat, d < 16 → nrm (shz d) ≤ 2 := by decide +kernel
theorem qt_l {a x k n : Int} (h : 4 * a = x - k) (h1 : x ≤ n) (h2 : -2 ≤ k) : a ≤ (n + 2) / 4 := by omega
theorem qt_r {a x k n : Int} (h : 4 * a = x - k) (h1 : -n ≤ x) (h2 : k ≤ 2) : -((n + 2) / 4) ≤ a := by omega
theorem qt_d {a b x y k l : Int} (h : 4 * a = x - k) (h1 : 4 * b = y - l) : 4 * (a - b) = x - y - (k - l) := by omega
theorem dn_le {y z e : Z2} (h1 : 4 * y.1 = z.1 - e.1) (h2 : 4 * y.2 = z.2 - e.2) (h3 : nrm e ≤ 2) : 4 * nrm y ≤ nrm z + 2 := by
  obtain ⟨a0, a1, a2, a3, a4, a5, a6⟩ := nrm_ge z
  obtain ⟨b0, b1, b2, b3, b4, b5, b6⟩ := nrm_ge e
  have up {x : Int} (h : x ≤ nrm e) : x ≤ 2 := Int.le_trans h h3
  have dn {x : Int} (h : -nrm e ≤ x) : -2 ≤ x := Int.le_trans (Int.neg_le_neg h3) h
  have h := qt_d h1 h2
  have := nrm_le (z := y) (n := (nrm z + 2) / 4) (Int.ediv_nonneg (Int.add_nonneg a0 (by decide)) (by decide)) (qt_l h1 a1 (dn b2)) (qt_r h1 a2 (up b1)) (qt_l h2 a3 (dn b4)) (qt_r h2 a4 (up b3)) (qt_l h a5 (dn b6)) (qt_r h a6 (up b5))
  exact Int.le_trans (Int.mul_le_mul_of_nonneg_left this (by decide)) (Int.mul_ediv_self_le (by decide))
theorem ml_l {a x n : Int} (h : a ≤ n) (h1 : x ≤ 2) : 4 * a + x ≤ 4 * n + 2 := Int.add_le_add (Int.mul_le_mul_of_nonneg_left h (by decide)) h1
theorem ml_r {a x n : Int} (h : -n ≤ a) (h1 : -2 ≤ x) : -(4 * n + 2) ≤ 4 * a + x := by omega
theorem ml_d (a b x y : Int) : 4 * a + x - (4 * b + y) = 4 * (a - b) + (x - y) := by omega
theorem up_le {y e : Z2} (h3 : nrm e ≤ 2) : nrm (4 * y.1 + e.1, 4 * y.2 + e.2) ≤ 4 * nrm y + 2 := by
  obtain ⟨a0, a1, a2, a3, a4, a5, a6⟩ := nrm_ge y
  obtain ⟨b0, b1, b2, b3, b4, b5, b6⟩ := nrm_ge e
  have up {x : Int} (h : x ≤ nrm e) : x ≤ 2 := Int.le_trans h h3
  have dn {x : Int} (h : -nrm e ≤ x) : -2 ≤ x := Int.le_trans (Int.neg_le_neg h3) h
  exact nrm_le (Int.add_nonneg (Int.mul_nonneg (by decide) a0) (by decide)) (ml_l a1 (up b1)) (ml_r a2 (dn b2)) (ml_l a3 (up b3)) (ml_r a4 (dn b4)) (ml_d _ _ _ _ ▸ ml_l a5 (up b5)) (ml_d _ _ _ _ ▸ ml_r a6 (dn b6))
theorem nrm_down (s : Nat) (z : Z2) : 4 * nrm (down s z) ≤ nrm z + 2 := by
  obtain ⟨h1, h2⟩ := lowZ_eq z
  have h3 := shz_nrm (fit z) (fit_lt z)
  unfold down
  rw [nrm_Un]
  generalize lowZ z (fit z) = y at *
  generalize shz (fit z) = e at *
  exact dn_le h1 h2 h3
theorem nrm_up (s : Nat) (z : Z2) {d : Nat} (hd : d < 16) : nrm (stepUp s z d) ≤ 4 * nrm z + 2 := by
  have h3 := shz_nrm d hd
  rw [← nrm_Tn s z]
  exact up_le h3
/-! numbers and words -/
def vl (ds : List Nat) : Int := ds.foldl (fun (a : Int) (d : Nat) => 16 * a + (d : Int)) 0
theorem hz_snoc (s : Nat) (ds : List Nat) (d : Nat) : hz s (ds ++ [d]) = stepUp s (hz s ds) d := by unfold hz; rw [List.foldl_append]; rfl
theorem vl_snoc (ds : List Nat) (d : Nat) : vl (ds ++ [d]) = 16 * vl ds + d := by unfold vl; rw [List.foldl_append]; rfl
theorem fit_zero : fit (0, 0) = 0 := by decide +kernel
theorem down_zero (s : Nat) : down s (0, 0) = (0, 0) := nrm_zero (by have := nrm_down s (0, 0); have h : nrm (0, 0) = 0 := by decide
                                                                     omega)
theorem numb_zero (s k : Nat) : numb s k (0, 0) = 0 := by cases k <;> simp [numb]
theorem snoc_ind {α : Type} {P : List α → Prop} (h0 : P []) (h1 : ∀ l a, P l → P (l ++ [a])) (l : List α) : P l := by
  have : ∀ l : List α, P l.reverse := by
    intro l
    induction l with
    | nil => exact h0
    | cons a l ih => rw [List.reverse_cons]; exact h1 _ _ ih
  have := this l.reverse
  rwa [List.reverse_reverse] at this
theorem numb_hz (s : Nat) (ds : List Nat) : (∀ d ∈ ds, d < 16) → ∀ k, ds.length ≤ k → numb s k (hz s ds) = vl ds := by
  induction ds using snoc_ind with
  | h0 => intro _ k _; exact numb_zero s k
  | h1 ds d ih =>
    intro hd k hk
    have hd1 : d < 16 := hd d (by simp)
    have ih := ih (fun x hx => hd x (by simp [hx]))
    rw [List.length_append, List.length_singleton] at hk
    obtain ⟨k, rfl⟩ : ∃ j, k = j + 1 := ⟨k - 1, by omega⟩
    rw [hz_snoc, vl_snoc, numb, fit_up s _ hd1, down_up s _ hd1, ih k (by omega)]
    split
    · rename_i h
      have e1 := fit_up s (hz s ds) hd1
      have e2 := down_up s (hz s ds) hd1
      rw [h] at e1 e2
      rw [fit_zero] at e1
      rw [down_zero] at e2
      have := ih k (by omega)
      rw [← e2, numb_zero] at this
      omega
    · omega
def bd : Nat → Int
  | 0 => 0
  | k + 1 => 4 ^ k
theorem bd_down (s : Nat) {z : Z2} {k : Nat} (h : nrm z ≤ bd (k + 1)) : nrm (down s z) ≤ bd k := by
  have h1 := nrm_down s z
  cases k with
  | zero => have : bd (0 + 1) = 1 := rfl
            have : bd 0 = 0 := rfl
            omega
  | succ k => have : bd (k + 1 + 1) = 4 ^ (k + 1) := rfl
              have : bd (k + 1) = 4 ^ k := rfl
              rw [Int.pow_succ] at *
              omega
theorem numb_nonneg (s : Nat) : ∀ (k : Nat) (z : Z2), 0 ≤ numb s k z
  | 0, _ => Int.le_refl _
  | k + 1, z => by
    rw [numb]
    have := numb_nonneg s k (down s z)
    split <;> omega
theorem numb_lt (s : Nat) : ∀ (k : Nat) (z : Z2), numb s k z < 16 ^ k
  | 0, _ => by simp [numb]
  | k + 1, z => by
    rw [numb, Int.pow_succ]
    have := numb_lt s k (down s z)
    have h2 := fit_lt z
    have h3 : (0 : Int) < 16 ^ k := Int.pow_pos (by decide)
    split <;> omega
theorem numb_dg (s : Nat) {k : Nat} {z : Z2} (hz0 : z ≠ (0, 0)) (hn : nrm z ≤ bd (k + 1)) (ih : hz s (dg (numb s k (down s z)).natAbs) = down s z) :
    dg (numb s (k + 1) z).natAbs = dg (numb s k (down s z)).natAbs ++ [fit z] := by
  have h1 := numb_nonneg s k (down s z)
  have h2 := fit_lt z
  rw [numb, if_neg hz0]
  have hne : ((fit z : Int) + 16 * numb s k (down s z)).natAbs ≠ 0 := by
    intro h
    have e1 : fit z = 0 := by omega
    have e2 : numb s k (down s z) = 0 := by omega
    rw [e2, show (0 : Int).natAbs = 0 from rfl, dg_zero] at ih
    have := up_down s z
    rw [← ih, e1] at this
    apply hz0
    rw [← this]
    show stepUp s (0, 0) 0 = (0, 0)
    unfold stepUp
    have : Tn s (0, 0) = (0, 0) := nrm_zero (by rw [nrm_Tn]; decide)
    rw [this]; decide
  rw [dg_pos hne]
  congr 2
  · congr 1; omega
  · omega
theorem hz_numb (s : Nat) : ∀ (k : Nat) (z : Z2), nrm z ≤ bd k → hz s (dg (numb s k z).natAbs) = z
  | 0, z, h => by rw [nrm_zero h]; simp [numb, dg_zero, hz]
  | k + 1, z, h => by
    by_cases hz0 : z = (0, 0)
    · subst hz0; rw [numb_zero, show (0 : Int).natAbs = 0 from rfl, dg_zero]; rfl
    · have ih := hz_numb s k (down s z) (bd_down s h)
      rw [numb_dg s hz0 h ih, hz_snoc, ih, up_down]
/-- every colour on the way is small -/
def Small (s : Nat) (B : Int) (ds : List Nat) : Prop := ∀ pre, pre <+: ds → nrm (hz s pre) ≤ B
theorem small_snoc {s : Nat} {B : Int} {ds : List Nat} {d : Nat} (h : Small s B ds) (h1 : nrm (hz s (ds ++ [d])) ≤ B) : Small s B (ds ++ [d]) := by
  intro pre hp
  rcases List.prefix_concat_iff.mp (by simpa using hp) with h2 | h2
  · rw [h2]; simpa using h1
  · exact h pre h2
theorem small_numb (s : Nat) {B : Int} (hB : 0 ≤ B) : ∀ (k : Nat) (z : Z2), nrm z ≤ bd k → nrm z ≤ B → Small s B (dg (numb s k z).natAbs)
  | 0, z, h, hb => by
    rw [numb, show (0 : Int).natAbs = 0 from rfl, dg_zero]
    intro pre hp
    rw [List.prefix_nil.mp hp]; show nrm (0, 0) ≤ B
    have : nrm (0, 0) = 0 := by decide
    omega
  | k + 1, z, h, hb => by
    by_cases hz0 : z = (0, 0)
    · subst hz0
      rw [numb_zero, show (0 : Int).natAbs = 0 from rfl, dg_zero]
      intro pre hp
      rw [List.prefix_nil.mp hp]; show nrm (0, 0) ≤ B
      exact hb
    · have hd := bd_down s h
      have h1 := nrm_down s z
      have h2 : 1 ≤ nrm z := by
        have := nrm_nonneg z
        by_cases e : nrm z ≤ 0
        · exact absurd (nrm_zero e) hz0
        · omega
      have ih := hz_numb s k (down s z) hd
      have hs := small_numb s hB k (down s z) hd (by omega)
      have e := numb_dg s hz0 h ih
      rw [e]
      refine small_snoc hs ?_
      rw [hz_snoc, ih, up_down]; exact hb
theorem small_len (s : Nat) (n : Nat) : ∀ ds : List Nat, (∀ d ∈ ds, d < 16) → ds.length ≤ n → Small s (4 ^ n - 1) ds := by
  have h1 : ∀ ds : List Nat, (∀ d ∈ ds, d < 16) → nrm (hz s ds) ≤ 4 ^ ds.length - 1 := by
    intro ds
    induction ds using snoc_ind with
    | h0 => intro _; show nrm (0, 0) ≤ _; have : nrm (0, 0) = 0 := by decide
            rw [this]; simp
    | h1 ds d ih =>
      intro hd
      have := ih (fun x hx => hd x (by simp [hx]))
      have h2 := nrm_up s (hz s ds) (hd d (by simp))
      rw [hz_snoc, List.length_append, List.length_singleton, Int.pow_succ]
      omega
  intro ds hd hn pre hp
  have h2 := h1 pre (fun x hx => hd x (hp.subset hx))
  have h3 : (4 : Int) ^ pre.length ≤ 4 ^ n := by
    have : (4 : Nat) ^ pre.length ≤ 4 ^ n := Nat.pow_le_pow_right (by decide) (Nat.le_trans hp.length_le hn)
    exact_mod_cast this
  omega
/-! further by five letters -/
def shd (d : Nat) : Nat := if d = 0 then 0 else (d + 4) % 15 + 1
theorem Tn_lin (n : Nat) (c a b : Int) (z : Z2) : Tn n (c * z.1 + a, c * z.2 + b) = (c * (Tn n z).1 + (Tn n (a, b)).1, c * (Tn n z).2 + (Tn n (a, b)).2) := by
  induction n with
  | zero => rfl
  | succ n ih =>
    show T1 (Tn n _) = _
    rw [ih]
    show T1 _ = (c * (T1 (Tn n z)).1 + (T1 (Tn n (a, b))).1, c * (T1 (Tn n z)).2 + (T1 (Tn n (a, b))).2)
    unfold T1
    ext <;> simp only
    rw [Int.mul_sub]; omega
theorem Tn_comm (n : Nat) : ∀ (k : Nat) (z : Z2), Tn n (Tn k z) = Tn k (Tn n z)
  | 0, _ => rfl
  | k + 1, z => by show Tn n (T1 (Tn k z)) = T1 (Tn k (Tn n z)); rw [Tn_T1, Tn_comm n k]
theorem shz_third : ∀ d : Nat, d < 16 → Tn 2 (shz d) = shz (shd d) ∧ shd d < 16 := by decide +kernel
theorem up_third (s : Nat) (z : Z2) {d : Nat} (hd : d < 16) : Tn 2 (stepUp s z d) = stepUp s (Tn 2 z) (shd d) := by
  unfold stepUp
  rw [Tn_lin, Tn_comm, ← (shz_third d hd).1]
theorem hz_third (s : Nat) (ds : List Nat) : (∀ d ∈ ds, d < 16) → Tn 2 (hz s ds) = hz s (ds.map shd) := by
  induction ds using snoc_ind with
  | h0 => intro _; rfl
  | h1 ds d ih =>
    intro hd
    rw [hz_snoc, up_third s _ (hd d (by simp)), ih (fun x hx => hd x (by simp [hx])), List.map_append, List.map_cons, List.map_nil, hz_snoc]
theorem numb_third (s : Nat) (ds : List Nat) (hd : ∀ d ∈ ds, d < 16) (k : Nat) (hk : ds.length ≤ k) : numb s k (Tn 2 (hz s ds)) = vl (ds.map shd) := by
  rw [hz_third s ds hd]
  refine numb_hz s _ ?_ k (by simpa using hk)
  intro x hx
  obtain ⟨d, h1, rfl⟩ := List.mem_map.mp hx
  exact (shz_third d (hd d h1)).2
/-! figures -/
theorem dg_lt : ∀ n : Nat, ∀ d ∈ dg n, d < 16 := by
  intro n
  induction n using Nat.strongRecOn with
  | ind n ih =>
    intro d hd
    by_cases h : n = 0
    · subst h; rw [dg_zero] at hd; cases hd
    · rw [dg_pos h] at hd
      rcases List.mem_append.mp hd with h1 | h1
      · exact ih _ (by omega) d h1
      · simp at h1; omega
theorem vl_dg : ∀ n : Nat, vl (dg n) = n := by
  intro n
  induction n using Nat.strongRecOn with
  | ind n ih =>
    by_cases h : n = 0
    · subst h; rw [dg_zero]; rfl
    · rw [dg_pos h, vl_snoc, ih _ (by omega)]; omega
theorem dg_len : ∀ (k n : Nat), n < 16 ^ k → (dg n).length ≤ k
  | 0, n, h => by have : n = 0 := by simpa using h
                  rw [this, dg_zero]; simp
  | k + 1, n, h => by
    by_cases h0 : n = 0
    · rw [h0, dg_zero]; simp
    · rw [dg_pos h0, List.length_append, List.length_singleton]
      have := dg_len k (n / 16) (by rw [Nat.pow_succ] at h; omega)
      omega
theorem dg_head : ∀ n : Nat, (dg n).head? ≠ some 0 := by
  intro n
  induction n using Nat.strongRecOn with
  | ind n ih =>
    by_cases h : n = 0
    · subst h; rw [dg_zero]; simp
    · rw [dg_pos h]
      by_cases h1 : n / 16 = 0
      · rw [h1, dg_zero]; simp; omega
      · have := ih (n / 16) (by omega)
        cases hh : dg (n / 16) with
        | nil => have := vl_dg (n / 16); rw [hh] at this; simp [vl] at this; omega
        | cons a l => rw [hh] at this; simpa using this
/-! the turned colour -/
theorem six_nat : ∀ n : Nat, n < 6 → ((n : Int) = 0 ∨ (n : Int) = 1 ∨ (n : Int) = 2 ∨ (n : Int) = 3 ∨ (n : Int) = 4 ∨ (n : Int) = 5) := by decide
theorem mod6 (k : Int) : k % 6 = 0 ∨ k % 6 = 1 ∨ k % 6 = 2 ∨ k % 6 = 3 ∨ k % 6 = 4 ∨ k % 6 = 5 := by
  have h := Int.emod_nonneg k (show (6 : Int) ≠ 0 by decide)
  have := six_nat (k % 6).toNat ((Int.toNat_lt h).mpr (Int.emod_lt_of_pos k (by decide)))
  rwa [Int.toNat_of_nonneg h] at this
theorem YI_at {j : Int} (r : Int) (hj : j % 6 = r % 6) (F N : Int) : YI j F N = YI r F N := by unfold YI; rw [hj]
theorem YI_0 (F N : Int) : YI 0 F N = F := rfl
theorem YI_1 (F N : Int) : YI 1 F N = N := rfl
theorem YI_2 (F N : Int) : YI 2 F N = N := rfl
theorem YI_3 (F N : Int) : YI 3 F N = N - F := rfl
theorem YI_4 (F N : Int) : YI 4 F N = 0 := rfl
theorem YI_5 (F N : Int) : YI 5 F N = 0 := rfl
theorem md_ad {k r d : Int} (h : k % 6 = r) : (k + d) % 6 = (r + d) % 6 := by rw [← h, Int.emod_add_emod]
theorem md_sb {k r d : Int} (h : k % 6 = r) : (k - d) % 6 = (r - d) % 6 := by rw [← h, Int.emod_sub_emod]
/-- three parts in a row, by the remainder -/
theorem YI_six {P : Int → Prop} (F N k : Int) (h : ∀ r : Int, r = 0 ∨ r = 1 ∨ r = 2 ∨ r = 3 ∨ r = 4 ∨ r = 5 → k % 6 = r % 6 → P r) : ∃ r : Int, (r = 0 ∨ r = 1 ∨ r = 2 ∨ r = 3 ∨ r = 4 ∨ r = 5) ∧ P r :=
  ⟨k % 6, mod6 k, h _ (mod6 k) (Int.emod_emod_of_dvd k (Int.dvd_refl 6)).symm⟩
theorem T1_mk {a b c d : Int} (h1 : a - b = c) (h2 : a = d) : T1 (a, b) = (c, d) := by subst h1 h2; rfl
theorem YI_opp (F N k : Int) : YI (k + 3) F N = N - YI k F N := by
  obtain ⟨r, hr, h1, h2⟩ := YI_six (P := fun r => YI (k + 3) F N = YI (r + 3) F N ∧ YI k F N = YI r F N) F N k fun r _ h => ⟨YI_at _ (by rw [Int.add_emod k, h, ← Int.add_emod]) F N, YI_at _ h F N⟩
  rw [h1, h2]
  rcases hr with rfl | rfl | rfl | rfl | rfl | rfl
  · exact YI_3 F N
  · exact (Int.sub_self N).symm
  · exact (Int.sub_self N).symm
  · show F = N - (N - F); rw [Int.sub_sub_self]
  · exact (Int.sub_zero N).symm
  · exact (Int.sub_zero N).symm
theorem YI_wheel (k F N : Int) : T1 (YI (k + 2) F N - YI (k - 2) F N, YI k F N - YI (k - 2) F N) = (YI (k + 1 + 2) F N - YI (k + 1 - 2) F N, YI (k + 1) F N - YI (k + 1 - 2) F N) := by
  have e1 : YI (k + 1 + 2) F N = N - YI k F N := by rw [Int.add_assoc]; exact YI_opp F N k
  have e2 : YI (k + 2) F N = N - YI (k + 1 - 2) F N := by
    have := YI_opp F N (k - 1)
    rw [show k - 1 + 3 = k + 2 by omega] at this
    rw [show k + 1 - 2 = k - 1 by omega]; exact this
  have e3 : YI (k + 1) F N = N - YI (k - 2) F N := by
    have := YI_opp F N (k - 2)
    rwa [show k - 2 + 3 = k + 1 by omega] at this
  rw [e1, e2, e3]
  exact T1_mk (by omega) (by omega)
theorem YI_turn (F N k : Int) (n : Nat) : Tn n (YI (k + 2) F N - YI (k - 2) F N, YI k F N - YI (k - 2) F N) = (YI (k + n + 2) F N - YI (k + n - 2) F N, YI (k + n) F N - YI (k + n - 2) F N) := by
  induction n with
  | zero => simp [Tn]
  | succ n ih =>
    show T1 (Tn n _) = _
    rw [ih, YI_wheel, show k + ((n + 1 : Nat) : Int) = k + n + 1 by omega]
theorem YI_bd {F N : Int} (k : Int) (h0 : 0 ≤ F) (h1 : F ≤ N) : 0 ≤ YI k F N := by
  have h2 := Int.sub_nonneg.mpr h1
  have h3 := Int.le_trans h0 h1
  unfold YI
  repeat' split
  all_goals first | assumption | exact Int.le_refl 0
theorem min3_zero {a b c : Int} (h1 : 0 ≤ a) (h2 : 0 ≤ b) (h3 : 0 ≤ c) (h : a = 0 ∨ b = 0 ∨ c = 0) : min3 a b c = 0 := by
  obtain ⟨e1, e2, e3⟩ := min3_le a b c
  refine Int.le_antisymm ?_ (le_min3 h1 h2 h3)
  rcases h with h | h | h
  · exact h ▸ e1
  · exact h ▸ e2
  · exact h ▸ e3
theorem can_sh (a b c : Int) : can (a - c, b - c) = (a - min3 a b c, b - min3 a b c, c - min3 a b c) := by
  unfold can
  rw [mnZ_sh]
  generalize min3 a b c = m
  exact congr (congrArg Prod.mk (by show a - c - (m - c) = _; omega)) (congr (congrArg Prod.mk (by show b - c - (m - c) = _; omega)) (Int.neg_sub m c))
theorem YI_can {F N : Int} (k : Int) (h0 : 0 ≤ F) (h1 : F ≤ N) : can (YI (k + 2) F N - YI (k - 2) F N, YI k F N - YI (k - 2) F N) = (YI (k + 2) F N, YI k F N, YI (k - 2) F N) := by
  have h : min3 (YI (k + 2) F N) (YI k F N) (YI (k - 2) F N) = 0 := by
    refine min3_zero (YI_bd _ h0 h1) (YI_bd _ h0 h1) (YI_bd _ h0 h1) ?_
    rcases mod6 k with h | h | h | h | h | h
    · exact .inr (.inr (YI_at 4 (md_sb h) F N))
    · exact .inr (.inr (YI_at 5 (md_sb h) F N))
    · exact .inl (YI_at 4 (md_ad h) F N)
    · exact .inl (YI_at 5 (md_ad h) F N)
    · exact .inr (.inl (YI_at 4 h F N))
    · exact .inr (.inl (YI_at 5 h F N))
  rw [can_sh, h, Int.sub_zero, Int.sub_zero, Int.sub_zero]
/-- what _law_turned gives -/
theorem turn_can {p0 p1 p2 w s : Int} (w0 : 0 ≤ w) (hN : nrm (p0 - p2, p1 - p2) + w < 2 ^ 35) (s0 : 0 ≤ s) (s5 : s ≤ 5) :
    TurnOk (rgbF p0 p0 p1 p2 w) (rgbF p1 p0 p1 p2 w) (rgbF p2 p0 p1 p2 w) s ∧
    (tI (tnR (rgbF p0 p0 p1 p2 w) (rgbF p1 p0 p1 p2 w) (rgbF p2 p0 p1 p2 w) s) - w, tI (tnG (rgbF p0 p0 p1 p2 w) (rgbF p1 p0 p1 p2 w) (rgbF p2 p0 p1 p2 w) s) - w, tI (tnB (rgbF p0 p0 p1 p2 w) (rgbF p1 p0 p1 p2 w) (rgbF p2 p0 p1 p2 w) s) - w) = can (Tn s.toNat (p0 - p2, p1 - p2)) := by
  have em : min3 (p0 - min3 p0 p1 p2 + w) (p1 - min3 p0 p1 p2 + w) (p2 - min3 p0 p1 p2 + w) = w := by rw [min3_sh, min3_sb, Int.sub_self, Int.zero_add]
  have eM : max3 (p0 - min3 p0 p1 p2 + w) (p1 - min3 p0 p1 p2 + w) (p2 - min3 p0 p1 p2 + w) = nrm (p0 - p2, p1 - p2) + w := by rw [max3_sh, max3_sb, nrm_sh]
  obtain ⟨ok, k, F, h0, h1, e1, e2, e3, e4, e5, e6⟩ := turn_is (p := p0 - min3 p0 p1 p2 + w) (q := p1 - min3 p0 p1 p2 + w) (t := p2 - min3 p0 p1 p2 + w) (s := s) (by rw [em]; exact w0) (by rw [eM]; exact hN) s0 s5
  refine ⟨ok, ?_⟩
  rw [em, eM] at *
  show (tI (tnR (FD (p0 - min3 p0 p1 p2 + w) c35) (FD (p1 - min3 p0 p1 p2 + w) c35) (FD (p2 - min3 p0 p1 p2 + w) c35) s) - w, tI (tnG (FD (p0 - min3 p0 p1 p2 + w) c35) (FD (p1 - min3 p0 p1 p2 + w) c35) (FD (p2 - min3 p0 p1 p2 + w) c35) s) - w, tI (tnB (FD (p0 - min3 p0 p1 p2 + w) c35) (FD (p1 - min3 p0 p1 p2 + w) c35) (FD (p2 - min3 p0 p1 p2 + w) c35) s) - w) = _
  rw [e4, e5, e6]
  generalize hN' : nrm (p0 - p2, p1 - p2) + w - w = N at *
  have ez : (p0 - p2, p1 - p2) = (YI (k + 2) F N - YI (k - 2) F N, YI k F N - YI (k - 2) F N) := by ext <;> simp only <;> omega
  rw [ez, YI_turn, show (s.toNat : Int) = s by omega, YI_can (k + s) h0 h1]
  ext <;> simp only <;> omega
end Mine
end
/-! part L5 -/
section
open PySem PySem.W PyProof.Rows PyProof.Rows.LCg
set_option linter.unusedVariables false
namespace Mine
theorem bytes_st {h₀ : Heap} {L I : Addr} {b : Array UInt8} {t : Tok} : ∀ i (h h' : Heap) (o : Obj) (nw : List (Addr × Obj)), KBw.IsBytesIter h I b t i → h.get? I = some o → h'.get? I = some o → (∀ b o, h₀.get? b = some o → h'.get? b = some o) → News h₀ L h' nw → True → KBw.IsBytesIter h' I b t i :=
  fun i h h' o nw st e e' k N S => by obtain ⟨o', q, r⟩ := st; rw [e] at q; cases q; exact ⟨o, e', r⟩
section
variable {prog : Program} {w : World} {A : Around} {E : Value → Shared → Prop} {s : Shared} {Q : Flow → Shared → Prop} {env : Env} {h₀ : Heap} {L : Addr}
theorem for_bytes {target : Expr} {body : List Stmt} {b : Array UInt8} {tb : Tok} {m : Str → Option Value} {news : List (Addr × Obj)}
    (J : Nat → (Str → Option Value) → List (Addr × Obj) → Prop)
    (hh : A.handled = none) (F : Fr h₀ L s.heap m) (N : News h₀ L s.heap news) (hJ : J 0 m news)
    (turn : ∀ i c t I m₁ news₁ oI h tk (E' : Value → Shared → Prop), i < b.size → b[i]? = some c → J i m₁ news₁ → AllNe I news₁ → Fr h₀ L h m₁ → News h₀ L h ((I, oI) :: news₁) →
      wpAny (model prog w) A (assign target env (.int (c.toNat : Int) t)) (fun _ s₃ => wpAny (model prog w) A (execs body env) (ForEnd h₀ L I oI (fun _ => True) (J (i + 1)) s Q) E' s₃) E' { s with heap := h, toks := tk })
    (done : ∀ m₁ news₁ h tk, J b.size m₁ news₁ → Fr h₀ L h m₁ → News h₀ L h news₁ → Q .next { s with heap := h, toks := tk })
    (ht : ∀ I v, letOwnedTupleGo target (.ref I) v = pure ()) :
    wpAny (model prog w) A (pyIter (.bytes b tb)) (fun it s₂ => codeAny (model prog w) A (.forLoop target it body [] env) (fun r s' => match r with | .ok f => Q f s' | .error e => cameBackBy (model prog w) A env E e s') s₂) E s := by
  refine KBw.pyIter_bytes ?_
  have up : ∀ c o, s.heap.get? c = some o → (s.heap.push { cls := .type "bytes_iterator", data := .fields #[.bytes b tb, .int 0 0] }).get? c = some o := fun b o e => Heap.get?_push_of_some _ e
  refine for_loop (s := { s with heap := _ }) (KBw.walks hh s.heap.objs.size b tb) (fun i h st => by obtain ⟨o, e, _⟩ := st; exact ⟨o, e⟩) bytes_st J (F.keeps up) (N.grown up)
    ⟨_, Heap.get?_push_size _ rfl, rfl, rfl⟩ (Nat.ne_of_lt F.ns.lt) (next_is_new F) (fun p hp => Nat.ne_of_lt (Heap.lt_size (N p hp).1)) trivial hJ ?_ ?_ (fun v => ht _ v)
  · rintro i v m₁ news₁ oI h tk E' hi ⟨c, u, hc, rfl⟩ hJ off hS F N
    exact turn i c u _ m₁ news₁ oI h tk E' hi hc hJ (allNe_of off) F N
  · intro m₁ news₁ h tk hJ F N
    exact done m₁ news₁ h tk hJ F N
theorem for_bytesM {target : Expr} {body : List Stmt} {b : Array UInt8} {tb : Tok} {m : Str → Option Value} {news : List (Addr × Obj)}
    (J : Nat → List (Addr × Obj) → Prop)
    (hh : A.handled = none) (F : Fr h₀ L s.heap m) (N : News h₀ L s.heap news) (hJ : J 0 news)
    (turn : ∀ i c t I news₁ oI h tk (E' : Value → Shared → Prop), i < b.size → b[i]? = some c → J i news₁ → AllNe I news₁ → Fr h₀ L h m → News h₀ L h ((I, oI) :: news₁) →
      wpAny (model prog w) A (assign target env (.int (c.toNat : Int) t)) (fun _ s₃ => wpAny (model prog w) A (execs body env) (MEnd h₀ L I oI (fun _ => True) m (J (i + 1)) s Q) E' s₃) E' { s with heap := h, toks := tk })
    (done : ∀ news₁ h tk, J b.size news₁ → Fr h₀ L h m → News h₀ L h news₁ → Q .next { s with heap := h, toks := tk })
    (ht : ∀ I v, letOwnedTupleGo target (.ref I) v = pure ()) :
    wpAny (model prog w) A (pyIter (.bytes b tb)) (fun it s₂ => codeAny (model prog w) A (.forLoop target it body [] env) (fun r s' => match r with | .ok f => Q f s' | .error e => cameBackBy (model prog w) A env E e s') s₂) E s := by
  refine for_bytes (fun i m₁ news => m₁ = m ∧ J i news) hh F N ⟨rfl, hJ⟩ ?_ ?_ ht
  · rintro i c t I m₁ news₁ oI h tk E' hi hc ⟨rfl, hJ⟩ off F N
    exact turn i c t I news₁ oI h tk E' hi hc hJ off F N
  · rintro m₁ news₁ h tk ⟨rfl, hJ⟩ F N
    exact done news₁ h tk hJ F N
end
end Mine
end
/-! part V7 -/
local macro_rules | `(tactic| walk_at "CompSrc") => `(tactic| (k_here; k_dflt (refine PyProof.Rows.LCg.CompSrc.ledger (by rfl) (by k_asm) (by k_asm) (by k_mem) (by exact Nat.le_of_ble_eq_true rfl) ?_); intro g'; lcg_lit))
local macro_rules | `(tactic| walk_at "CompEnd") => `(tactic| k_dflt (refine Mine.compEnd_same (by k_asm) (by k_asm) (by assumption) (by lcg_src) ?_))
local macro_rules | `(tactic| walk_at "call builtin:min") => `(tactic| (k_here; (with_reducible show PySem.wpAny _ _ (PySem.call (PySem.Value.builtin _) [PySem.Value.ref _]) _ _ _); (with_unfolding_all refine' Mine.min3_call ?k1 ?k2 ?k3 ?k4 ?_; (case k1 => with_unfolding_all rfl); (case k2 => k_asm); (case k3 => k_asm); (case k4 => exact PyProof.Rows.News.isList (by k_asm) (by k_mem)); k_whole); intro h' t' k' F' N'; (try k_sweep)))
local macro_rules | `(tactic| walk_at "exec For Name Name cons nil") => `(tactic| (k_here; k_dflt ((refine' PySem.wpAny_For ?k1 ?k2); (case k2 => intro _; rfl))))
section
open PySem PySem.W PyProof.Rows
namespace Mine
/-- the shades in the heap -/
def ShAt (h : Heap) (S : Addr) : Prop := ∃ its n, h.get? S = some (W.listOf its n) ∧ its.size = 16 ∧ ∀ q, q < 16 → ∃ a row n, its[q]? = some (.ref a) ∧ h.get? a = some ({ cls := .type "list", data := .seq row n } : Obj) ∧ Three (shT q) row
theorem ShAt.keep {h h' : Heap} {S : Addr} (x : ShAt h S) (k : ∀ b o, h.get? b = some o → h'.get? b = some o) : ShAt h' S := by
  obtain ⟨its, n, h1, h2, h3⟩ := x
  refine ⟨its, n, k _ _ h1, h2, fun q hq => ?_⟩
  obtain ⟨a, row, n, e1, e2, e3⟩ := h3 q hq
  exact ⟨a, row, n, e1, k _ _ e2, e3⟩
theorem abs_lt60 {p m M w : Int} (h1 : m ≤ p) (h2 : p ≤ M) (h3 : 0 ≤ w) (h4 : M - m + w < 2 ^ 35) : (p - m + w).natAbs < 2 ^ 60 := by omega
/-- _law_turned on the lattice -/
theorem c_turnZ (w : World) (mean : ExcName → Option Value) (mg mb : Str → Option Value) (P : Addr) (p0 p1 p2 sixths white : Int) (u0 u1 u2 t2 t3 : Tok)
    (w0 : 0 ≤ white) (hN : nrm (p0 - p2, p1 - p2) + white < 2 ^ 35) (s0 : 0 ≤ sixths) (s5 : sixths ≤ 5) :
    Contract w mean mg mb 52 4 [.ref P, .int sixths t2, .int white t3] (fun h => h.IsList P [Value.int p0 u0, .int p1 u1, .int p2 u2].toArray)
      (OutList3 (can (Tn sixths.toNat (p0 - p2, p1 - p2))).1 (can (Tn sixths.toNat (p0 - p2, p1 - p2))).2.1 (can (Tn sixths.toNat (p0 - p2, p1 - p2))).2.2) := by
  obtain ⟨ok, e⟩ := turn_can w0 hN s0 s5
  have e1 := congrArg (fun z => z.1) e
  have e2 := congrArg (fun z => z.2.1) e
  have e3 := congrArg (fun z => z.2.2) e
  simp only at e1 e2 e3
  have hb : ∀ p : Int, (p = p0 ∨ p = p1 ∨ p = p2) → (p - min3 p0 p1 p2 + white).natAbs < 2 ^ 60 := by
    intro p hp
    rw [nrm_sh] at hN
    refine abs_lt60 (m := min3 p0 p1 p2) (M := max3 p0 p1 p2) ?_ ?_ w0 hN
    · obtain ⟨x, y, z⟩ := min3_le p0 p1 p2
      rcases hp with h | h | h <;> (rw [h]; assumption)
    · obtain ⟨x, y, z⟩ := le_max3 p0 p1 p2
      rcases hp with h | h | h <;> (rw [h]; assumption)
  have C := c_turned w mean mg mb P p0 p1 p2 sixths white u0 u1 u2 t2 t3 (hb _ (.inl rfl)) (hb _ (.inr (.inl rfl))) (hb _ (.inr (.inr rfl))) (by omega) ok
  rw [e1, e2, e3] at C
  exact C
abbrev li3 (x y z : Int) (t u v : Tok) (n : Nat) : Obj := { cls := .type "list", data := .seq #[.int x t, .int y u, .int z v] n }
theorem outList3 {x y z x' y' z' : Int} {g h h' : Heap} {L D : Addr} {t1 t2 t3 : Tok} {n : Nat} {news : List (Addr × Obj)} (e : g = h) (N : News g L h' ((D, li3 x y z t1 t2 t3 n) :: news)) (ex : x = x') (ey : y = y') (ez : z = z') : OutList3 x' y' z' h h' (.ref D) := by
  subst ex ey ez
  exact ⟨D, t1, t2, t3, n, rfl, freshOf e N (.head _)⟩
structure ApP (P cS cp co ct : Addr) : Prop where
  a1 : @Ne Nat P cS
  a2 : @Ne Nat P cp
  a3 : @Ne Nat P co
  a4 : @Ne Nat P ct
def JP (S cS cp co ct : Addr) (s : Nat) (ds : List Nat) (i : Nat) (news : List (Addr × Obj)) : Prop :=
  ∃ P p0 p1 p2 u0 u1 u2 n op os oo ot vo vt, news = [(P, li3 p0 p1 p2 u0 u1 u2 n), (ct, ot), (co, oo), (cp, op), (cS, os)] ∧ cellOf os (some (.ref S)) ∧ cellOf op (some (.ref P)) ∧ cellOf oo vo ∧ cellOf ot vt ∧
    (p0 - p2, p1 - p2) = hz s (ds.take i) ∧ ApP P cS cp co ct
theorem JP.el {S cS cp co ct : Addr} {s : Nat} {ds : List Nat} {i : Nat} {news : List (Addr × Obj)} {C : Prop} (h : JP S cS cp co ct s ds i news)
    (k : ∀ P p0 p1 p2 u0 u1 u2 n op os oo ot vo vt, news = [(P, li3 p0 p1 p2 u0 u1 u2 n), (ct, ot), (co, oo), (cp, op), (cS, os)] → cellOf os (some (.ref S)) → cellOf op (some (.ref P)) → cellOf oo vo → cellOf ot vt →
      (p0 - p2, p1 - p2) = hz s (ds.take i) → @Ne Nat P cS → @Ne Nat P cp → @Ne Nat P co → @Ne Nat P ct → C) : C := by
  exact el_E14 h fun P p0 p1 p2 u0 u1 u2 n op os oo ot vo vt h => el_a7 h fun e d1 d2 d3 d4 ez ap => k P p0 p1 p2 u0 u1 u2 n op os oo ot vo vt e d1 d2 d3 d4 ez ap.a1 ap.a2 ap.a3 ap.a4
theorem ShAt.el {h : Heap} {S : Addr} {C : Prop} (x : ShAt h S) (k : ∀ its n, h.get? S = some (W.listOf its n) → its.size = 16 → (∀ q, q < 16 → ∃ a row n, its[q]? = some (.ref a) ∧ h.get? a = some ({ cls := .type "list", data := .seq row n } : Obj) ∧ Three (shT q) row) → C) : C :=
  let ⟨its, n, h1, h2, h3⟩ := x; k its n h1 h2 h3
theorem startP {h₀ h : Heap} {L S P cS cp co ct : Addr} {op os oo ot : Obj} {vo vt : Option Value} {u0 u1 u2 n s : Nat} {ds : List Nat} (N : News h₀ L h [(P, li3 0 0 0 u0 u1 u2 n), (ct, ot), (co, oo), (cp, op), (cS, os)])
    (d1 : cellOf os (some (.ref S))) (d2 : cellOf op (some (.ref P))) (d3 : cellOf oo vo) (d4 : cellOf ot vt) (a1 : @Ne Nat P cS) (a2 : @Ne Nat P cp) (a3 : @Ne Nat P co) (a4 : @Ne Nat P ct) : ∃ news, News h₀ L h news ∧ JP S cS cp co ct s ds 0 news :=
  ⟨_, N, P, 0, 0, 0, u0, u1, u2, n, op, os, oo, ot, vo, vt, rfl, d1, d2, d3, d4, rfl, ⟨a1, a2, a3, a4⟩⟩
section
variable {prog : Program} {w : World} {A : Around} {E : Value → Shared → Prop} {s : Shared} {value slice : PySem.Expr} {Q : Value → Shared → Prop} {l : Addr} {a b c : Value} {k : Int} {u : Tok}
theorem item3_0 (hl : s.heap.IsList l #[a, b, c]) (hk : k = 0) (h : Q a s) (hs : subscripted slice false (.ref l) (.int k u) = operate [.ref l, .int k u] (getItem (.ref l) (.int k u)) := by with_unfolding_all rfl) :
    wpAny (model prog w) A (subscriptTail value slice (.ref l) (.int k u)) Q E s := item_at hl (by omega) (by omega) (by subst hk; rfl) h hs
theorem item3_1 (hl : s.heap.IsList l #[a, b, c]) (hk : k = 1) (h : Q b s) (hs : subscripted slice false (.ref l) (.int k u) = operate [.ref l, .int k u] (getItem (.ref l) (.int k u)) := by with_unfolding_all rfl) :
    wpAny (model prog w) A (subscriptTail value slice (.ref l) (.int k u)) Q E s := item_at hl (by omega) (by omega) (by subst hk; rfl) h hs
theorem item3_2 (hl : s.heap.IsList l #[a, b, c]) (hk : k = 2) (h : Q c s) (hs : subscripted slice false (.ref l) (.int k u) = operate [.ref l, .int k u] (getItem (.ref l) (.int k u)) := by with_unfolding_all rfl) :
    wpAny (model prog w) A (subscriptTail value slice (.ref l) (.int k u)) Q E s := item_at hl (by omega) (by omega) (by subst hk; rfl) h hs
end
theorem endP {h₀ h : Heap} {L S P P' D9 cS cp co ct I : Addr} {op os oo ot oI o9 oP : Obj} {vo vt : Option Value} {x y z : Int} {u0 u1 u2 : Tok} {n st i tk d : Nat} {ds : List Nat} {m : Str → Option Value} {s : Shared} {Q : Flow → Shared → Prop}
    (F : Fr h₀ L h m) (N : News h₀ L h [(P', li3 x y z u0 u1 u2 n), (D9, o9), (I, oI), (P, oP), (ct, ot), (co, oo), (cp, op), (cS, os)])
    (d1 : cellOf os (some (.ref S))) (d2 : cellOf op (some (.ref P'))) (d3 : cellOf oo vo) (d4 : cellOf ot vt) (hd : ds[i]? = some d) (ex : x - z = (stepUp st (hz st (ds.take i)) d).1) (ey : y - z = (stepUp st (hz st (ds.take i)) d).2)
    (o1 : LCg.Off1 P' [(D9, o9), (I, oI), (P, oP), (ct, ot), (co, oo), (cp, op), (cS, os)]) (g2 : @Ne Nat ct I) (g3 : @Ne Nat co I) (g4 : @Ne Nat cp I) (g5 : @Ne Nat cS I) :
    MEnd h₀ L I oI (fun _ => True) m (JP S cS cp co ct st ds (i + 1)) s Q .next { s with heap := h, toks := tk } := by
  obtain ⟨o2, o3, o4, o5, o6, o7, o8, _⟩ := o1
  refine MEnd.next F N [(P', li3 x y z u0 u1 u2 n), (ct, ot), (co, oo), (cp, op), (cS, os)] ?_ ?_ trivial ⟨P', x, y, z, u0, u1, u2, n, op, os, oo, ot, vo, vt, rfl, d1, d2, d3, d4, ?_, ⟨Ne.symm o8, Ne.symm o7, Ne.symm o6, Ne.symm o5⟩⟩
  · exact (subC (.tail _ (.tail _ (.head _))) (subC (.head _) (subC (.tail _ (.tail _ (.tail _ (.tail _ (.head _))))) (subC (.tail _ (.tail _ (.tail _ (.tail _ (.tail _ (.head _)))))) (subC (.tail _ (.tail _ (.tail _ (.tail _ (.tail _ (.tail _ (.head _))))))) (subC (.tail _ (.tail _ (.tail _ (.tail _ (.tail _ (.tail _ (.tail _ (.head _)))))))) subN))))))
  · exact neC (Ne.symm o3) (neC g2 (neC g3 (neC g4 (neC g5 neNil))))
  · rw [List.take_add_one, hd, Option.toList_some, hz_snoc]; exact Prod.ext ex ey
theorem up_lin (a m d e : Int) : 4 * (a - m) + d - (4 * (-m) + e) = 4 * a + (d - e) := by omega
theorem up_can (s : Nat) (z : Z2) (d : Nat) : 4 * (can (Tn s z)).1 + shT d 0 - (4 * (can (Tn s z)).2.2 + shT d 2) = (stepUp s z d).1 ∧ 4 * (can (Tn s z)).2.1 + shT d 1 - (4 * (can (Tn s z)).2.2 + shT d 2) = (stepUp s z d).2 := by
  unfold stepUp shz can
  simp only
  exact ⟨up_lin _ _ _ _, up_lin _ _ _ _⟩
theorem can_of {p0 p1 p2 : Int} {z : Z2} (e : (p0 - p2, p1 - p2) = z) : p0 - min3 p0 p1 p2 = (can z).1 ∧ p1 - min3 p0 p1 p2 = (can z).2.1 ∧ p2 - min3 p0 p1 p2 = (can z).2.2 := by
  subst e
  rw [can_sh]
  exact ⟨rfl, rfl, rfl⟩
theorem take_all {b : Array UInt8} {ds : List Nat} (hb : b.toList = ds.map letter) : ds.take b.size = ds := by
  have : b.size = ds.length := by rw [← Array.length_toList, hb, List.length_map]
  rw [this, List.take_length]
theorem letter_nat : ∀ d : Nat, d < 16 → ((letter d).toNat : Int) = 65 + d := by decide
theorem get_letter {b : Array UInt8} {ds : List Nat} (hb : b.toList = ds.map letter) {i : Nat} {c : UInt8} (hc : b[i]? = some c) : ∃ d, ds[i]? = some d ∧ c = letter d := by
  rw [← Array.getElem?_toList, hb, List.getElem?_map] at hc
  cases h : ds[i]? with
  | none => rw [h] at hc; simp at hc
  | some d => rw [h] at hc; simp at hc; exact ⟨d, rfl, hc.symm⟩
local macro_rules | `(tactic| walk_at "call ref") => `(tactic| (k_here; (with_reducible show wpAny _ _ (call (Value.ref 52) _) ..); k_dflt (refine useL (c_turnZ _ _ _ _ _ _ _ _ _ _ _ _ _ _ _ (by assumption) (by assumption) (by assumption) (by assumption)) (by exact News.isList (by k_asm) (by k_mem)) ?_); intro D9 t91 t92 t93 n9 h9 tk9 ne9 F9 N9; (dsimp only [AllNe] at ne9); refine el_a7 ne9 ?_; clear ne9; intro n91 n92 n93 n94 n95 n96 _; (try dsimp only)))
local macro_rules | `(tactic| walk_at "FinE") => `(tactic| k_dflt ((unfold LCg.FinE); intro D' h' tk' F' N' o1'; (try simp only [List.nil_append, List.cons_append] at N'); (try dsimp only); (have o1s := o1'); (try (obtain ⟨n71, n72, n73, n74, n75, n76, n77, -⟩ := o1'))))
local macro_rules | `(tactic| walk_at "exec Assign cons ListComp") => `(tactic| (k_here; k_dflt (refine wpAny_Assign_Name ?_)))
local macro_rules | `(tactic| walk_at "CompRest") => `(tactic| (with_unfolding_all ((refine LCg.CompRest.succ ?_; intro v' I' oI' C' oC' D' m' h' tk' E' hv' hC' hx' F' N' off' ne'; (first | lcg_open hv' | (obtain ⟨t9', hv9'⟩ := hv'; subst hv9'))))))
local macro_rules | `(tactic| walk_at "subscriptTail Name Name ref int") => `(tactic| (k_here; k_dflt (first | refine item3_0 (News.isList (by k_asm) (by k_mem)) (by decide) ?_ | refine item3_1 (News.isList (by k_asm) (by k_mem)) (by decide) ?_ | refine item3_2 (News.isList (by k_asm) (by k_mem)) (by decide) ?_)))
local macro_rules | `(tactic| walk_at "subscriptTail Subscript Name BinOp Name ref int") => `(tactic| (k_here; k_dflt ((refine' item_three (stays_list (Fr.keep (by k_asm)) (by assumption)) (by assumption) ?k1 ?k2 ?_); (case k1 => decide); (case k2 => decide); intro t')))
local macro_rules | `(tactic| walk_at "subscriptTail Name BinOp ref int") => `(tactic| (k_here; k_dflt ((refine' item_at (stays_list (Fr.keep (by k_asm)) (by assumption)) ?k1 ?k2 ?k3 ?_); (case k1 => omega); (case k2 => omega); (case k3 => assumption))))
local macro_rules | `(tactic| ktr_step) => `(tactic| repeat' (first | ((fail_if_success (with_reducible first | show wpAny _ _ (pyIter _) (fun it s₂ => codeAny _ _ (Code.forLoop _ it _ [] _) _ s₂) _ _ | show MEnd ..)); ktr_rel)))
set_option maxRecDepth 100000 in
set_option maxHeartbeats 8000000 in
theorem c_painted (w : World) (mean : ExcName → Option Value) (mg mb : Str → Option Value) (S : Addr) (b : Array UInt8) (ds : List Nat) (sixths white : Int) (tb t2 t3 : Tok)
    (hb : b.toList = ds.map letter) (hdl : ∀ d ∈ ds, d < 16) (w0 : 0 ≤ white) (w7 : white ≤ 7 * 2 ^ 32) (s0 : 0 ≤ sixths) (s5 : sixths ≤ 5) (hs : Small sixths.toNat (2 ^ 32 - 1) ds) :
    Contract w mean mg mb 57 5 [.bytes b tb, .int sixths t2, .int white t3, .ref S] (fun h => ShAt h S)
      (OutList3 (can (hz sixths.toNat ds)).1 (can (hz sixths.toNat ds)).2.1 (can (hz sixths.toNat ds)).2.2) := by
  delta Contract Pg KK LS
  k_fill
  intro dp un gd cn cs a ccd cl outer A₀ base h₀ L m s Q E B F X T hk hd hu hpre hret
  w_top off
  k_dflt tb_start
  with_reducible rename _ = s.heap => eG
  ktr_step
  with_reducible rename News _ _ _ _ => N'
  obtain ⟨news, N1, hJ⟩ := startP (S := S) (s := sixths.toNat) (ds := ds) N' (by assumption) (by assumption) (by assumption) (by assumption) (by k_ne) (by k_ne) (by k_ne) (by k_ne)
  refine for_bytesM (JP _ _ _ _ _ _ _) rfl (by k_asm) N1 hJ ?turn ?done (by intro _ _; rfl)
  · clear N1 hJ N'
    intro i c t I news₁ oI h tk E' hi hc hJ off' F' N'
    refine hJ.el ?_; clear hJ
    intro P p0 p1 p2 u0 u1 u2 n op os oo ot vo vt e9 dS dP dO dT ez f1 f2 f3 f4
    subst e9
    obtain ⟨d, hd1, rfl⟩ := get_letter hb hc
    have hd16 : d < 16 := hdl d (List.mem_of_getElem? hd1)
    rw [letter_nat d hd16]
    refine hpre.el ?_
    intro its nS hS hsz rows
    refine el_E3 (rows d hd16) ?_
    intro a row nr hrow ha h3
    rw [← eG] at hS ha
    have LS1 : Heap.IsList _ S its := ⟨_, hS, rfl, _, rfl⟩
    have LR1 : Heap.IsList _ a row := ⟨_, ha, rfl, _, rfl⟩
    have hidx : its[(65 + (d : Int) - 65).toNat]? = some (.ref a) := by rw [show (65 + (d : Int) - 65).toNat = d by omega]; exact hrow
    have hN : nrm (p0 - p2, p1 - p2) + white < 2 ^ 35 := by
      have := hs (ds.take i) (List.take_prefix _ _)
      rw [ez]; omega
    dsimp only [AllNe] at off'
    refine el_a6 off' ?_; clear off'
    intro g1 g2 g3 g4 g5 _
    ktr_step
    with_reducible rename News _ _ _ _ => N2
    with_reducible rename Fr _ _ _ _ => F2
    with_reducible rename LCg.Off1 _ _ => o1
    exact endP F2 N2 dS (by assumption) (by assumption) (by assumption) hd1 (by rw [← ez]; exact (up_can _ _ _).1) (by rw [← ez]; exact (up_can _ _ _).2) o1 g2 g3 g4 g5
  · clear N1 hJ N'
    intro news₁ h tk hJ F' N'
    refine hJ.el ?_; clear hJ
    intro P p0 p1 p2 u0 u1 u2 n op os oo ot vo vt e9 dS dP dO dT ez f1 f2 f3 f4
    subst e9
    ktr_step
    with_reducible rename News _ _ _ _ => N2
    with_reducible rename Fr _ _ _ _ => F2
    rw [take_all hb] at ez
    have ce := can_of ez
    exact hret _ _ _ (outList3 eG N2 ce.1 ce.2.1 ce.2.2) (keepOf eG F2)
end Mine
end
/-! part V8 -/
section
open PySem PySem.W PyProof.Rows
namespace Mine
def IN (S : Addr) (s k0 : Nat) (z0 : Z2) (sx : Int) (g : Heap) (L : Addr) (n : Nat) (h : Heap) : Prop :=
  ∃ m z num pw t1 t2 t3 tx ty ox oy oS j, Fr g L h m ∧ News g L h [(L + 1 + 1 + 1, oy), (L + 1 + 1, ox), (L + 1, oS)] ∧ m (Str.ofString "number") = some (.int num t1) ∧ m (Str.ofString "power") = some (.int pw t2) ∧ m (Str.ofString "sixths") = some (.int sx t3) ∧
    cellOf oS (some (.ref S)) ∧ cellOf ox (some (.int z.1 tx)) ∧ cellOf oy (some (.int z.2 ty)) ∧ nrm z ≤ bd n ∧ num + pw * numb s n z = numb s k0 z0 ∧ pw = 16 ^ j ∧ j + n = k0
theorem IN.el {S : Addr} {s k0 : Nat} {z0 : Z2} {sx : Int} {g : Heap} {L : Addr} {n : Nat} {h : Heap} {C : Prop} (x : IN S s k0 z0 sx g L n h)
    (k : ∀ m z num pw t1 t2 t3 tx ty ox oy oS j, Fr g L h m → News g L h [(L + 1 + 1 + 1, oy), (L + 1 + 1, ox), (L + 1, oS)] → m (Str.ofString "number") = some (.int num t1) → m (Str.ofString "power") = some (.int pw t2) → m (Str.ofString "sixths") = some (.int sx t3) →
      cellOf oS (some (.ref S)) → cellOf ox (some (.int z.1 tx)) → cellOf oy (some (.int z.2 ty)) → nrm z ≤ bd n → num + pw * numb s n z = numb s k0 z0 → pw = 16 ^ j → j + n = k0 → C) : C := by
  exact el_E13 x fun m z num pw t1 t2 t3 tx ty ox oy oS j x => el_a12 x (k m z num pw t1 t2 t3 tx ty ox oy oS j)
def Cut (z : Z2) (s : Shared) (b : Bool) (s₂ : Shared) : Prop := (b = true ↔ z ≠ (0, 0)) ∧ ∃ tk, s₂ = { s with toks := tk }
theorem Cut.mk1 {z : Z2} {s : Shared} {tk : Nat} (h : z.1 ≠ 0 ∨ z.2 ≠ 0) : Cut z s true { s with toks := tk } := ⟨⟨fun _ e => by rw [e] at h; simp at h, fun _ => rfl⟩, tk, rfl⟩
theorem Cut.mk0 {z : Z2} {s : Shared} {tk : Nat} (h1 : z.1 = 0) (h2 : z.2 = 0) : Cut z s false { s with toks := tk } := ⟨⟨fun h => (nomatch h), fun h => absurd (Prod.ext h1 h2) h⟩, tk, rfl⟩
theorem fitP_t {z : Z2} {i : Nat} (h1 : Int.fmod (z.1 - shT i 0 + shT i 2) 4 = 0) (h2 : Int.fmod (z.2 - shT i 1 + shT i 2) 4 = 0) : fitP z i = true := by unfold fitP; rw [h1, h2]; rfl
theorem fitP_f1 {z : Z2} {i : Nat} (h1 : Int.fmod (z.1 - shT i 0 + shT i 2) 4 ≠ 0) : fitP z i = false := by unfold fitP; simp [h1]
theorem fitP_f2 {z : Z2} {i : Nat} (h2 : Int.fmod (z.2 - shT i 1 + shT i 2) 4 ≠ 0) : fitP z i = false := by unfold fitP; simp [h2]
theorem ints_one {ys : List Value} {n : Int} (h : IntsAre ys [n]) : ∃ t, ys = [.int n t] := by
  cases h with
  | cons _ t h => cases h; exact ⟨_, rfl⟩
section
variable {prog : Program} {w : World} {A : Around} {E : Value → Shared → Prop} {s : Shared} {value slice : PySem.Expr} {Q : Value → Shared → Prop} {l : Addr} {a : Value} {k : Int} {u : Tok}
theorem item1_0 (hl : s.heap.IsList l #[a]) (hk : k = 0) (h : Q a s) (hs : subscripted slice false (.ref l) (.int k u) = operate [.ref l, .int k u] (getItem (.ref l) (.int k u)) := by with_unfolding_all rfl) :
    wpAny (model prog w) A (subscriptTail value slice (.ref l) (.int k u)) Q E s := item_at hl (by omega) (by omega) (by subst hk; rfl) h hs
end
def JS (L D : Addr) (oD oS : Obj) (m : Str → Option Value) (z1 : Z2) (i : Nat) (m₁ : Str → Option Value) (news : List (Addr × Obj)) : Prop :=
  ∃ tx ty ox oy, (∀ y, y ≠ Str.ofString "step" → m₁ y = m y) ∧ news = [(D, oD), (L + 1 + 1 + 1, oy), (L + 1 + 1, ox), (L + 1, oS)] ∧ cellOf ox (some (.int (Un i z1).1 tx)) ∧ cellOf oy (some (.int (Un i z1).2 ty))
theorem JS.el {L D : Addr} {oD oS : Obj} {m : Str → Option Value} {z1 : Z2} {i : Nat} {m₁ : Str → Option Value} {news : List (Addr × Obj)} {C : Prop} (x : JS L D oD oS m z1 i m₁ news)
    (k : ∀ tx ty ox oy, (∀ y, y ≠ Str.ofString "step" → m₁ y = m y) → news = [(D, oD), (L + 1 + 1 + 1, oy), (L + 1 + 1, ox), (L + 1, oS)] → cellOf ox (some (.int (Un i z1).1 tx)) → cellOf oy (some (.int (Un i z1).2 ty)) → C) : C := by
  exact el_E4 x fun tx ty ox oy x => el_a4 x (k tx ty ox oy)
theorem startS {L D Dt : Addr} {oD oS ox oy ot : Obj} {g h : Heap} {m : Str → Option Value} {z1 : Z2} {tx ty : Tok} (F : Fr g L h m) (N : News g L h [(Dt, ot), (D, oD), (L + 1 + 1 + 1, oy), (L + 1 + 1, ox), (L + 1, oS)]) (dx : cellOf ox (some (.int z1.1 tx))) (dy : cellOf oy (some (.int z1.2 ty))) :
    ∃ news, News g L h news ∧ JS L D oD oS m z1 0 m news := ⟨_, fun p hp => N p (.tail _ hp), tx, ty, ox, oy, fun _ _ => rfl, rfl, dx, dy⟩
theorem endS {L D Dt I : Addr} {oD oS ox oy ot oI : Obj} {g h : Heap} {m m₂ : Str → Option Value} {z1 : Z2} {tx ty : Tok} {i tk : Nat} {x y : Int} {s : Shared} {Q : Flow → Shared → Prop}
    (F : Fr g L h m₂) (N : News g L h [(Dt, ot), (I, oI), (D, oD), (L + 1 + 1 + 1, oy), (L + 1 + 1, ox), (L + 1, oS)]) (hm : ∀ y, y ≠ Str.ofString "step" → m₂ y = m y)
    (dx : cellOf ox (some (.int x tx))) (dy : cellOf oy (some (.int y ty))) (ex : x = (Un i z1).2) (ey : y = (Un i z1).2 - (Un i z1).1) (off : AllNe I [(D, oD), (L + 1 + 1 + 1, oy), (L + 1 + 1, ox), (L + 1, oS)]) :
    ForEnd g L I oI (fun _ => True) (JS L D oD oS m z1 (i + 1)) s Q .next { s with heap := h, toks := tk } := by
  subst ex ey
  exact ForEnd.next F N _ (fun p hp => .tail _ hp) off.off trivial ⟨tx, ty, ox, oy, hm, rfl, dx, dy⟩
theorem endN {S L D : Addr} {s k0 n j : Nat} {z0 z : Z2} {sx num pw : Int} {g h : Heap} {m : Str → Option Value} {t1 t2 t3 tx ty : Tok} {ox oy oS oD : Obj} {d tk : Nat} {st : Shared} {Q : Flow → Shared → Prop}
    (F : Fr g L h m) (N : News g L h [(D, oD), (L + 1 + 1 + 1, oy), (L + 1 + 1, ox), (L + 1, oS)]) (e1 : m (Str.ofString "number") = some (.int (num + (d : Int) * pw) t1)) (e2 : m (Str.ofString "power") = some (.int (pw * 16) t2)) (e3 : m (Str.ofString "sixths") = some (.int sx t3))
    (dS : cellOf oS (some (.ref S))) (dx : cellOf ox (some (.int (Un s (lowZ z d)).1 tx))) (dy : cellOf oy (some (.int (Un s (lowZ z d)).2 ty))) (hz : z ≠ (0, 0)) (hnz : nrm z ≤ bd n) (hsum : num + pw * numb s n z = numb s k0 z0) (hpw : pw = 16 ^ j) (hj : j + n = k0) (hfit : fit z = d) :
    TurnEnd (IN S s k0 z0 sx g L) n st Q .next { st with heap := h, toks := tk } := by
  subst hfit
  cases n with
  | zero => exact absurd (nrm_zero hnz) hz
  | succ n =>
    refine TurnEnd.next (k := n) (by omega) ⟨m, down s z, _, _, t1, t2, t3, tx, ty, ox, oy, oS, j + 1, F, fun p hp => N p (.tail _ hp), e1, e2, e3, dS, dx, dy, bd_down s hnz, ?_, by rw [hpw, Int.pow_succ], by omega⟩
    rw [← hsum, numb, if_neg hz]
    generalize numb s n (down s z) = y
    rw [Int.mul_add, ← Int.mul_assoc, Int.mul_comm pw (fit z : Int)]
    omega
theorem range_nat : ∀ n : Nat, n < 6 → Builtin.Range.small 0 (n : Int) 1 = true ∧ Builtin.Range.rangeSize 0 (n : Int) 1 = ((n : Nat) : Int) := by decide
theorem range_of {s : Int} (s0 : 0 ≤ s) (s5 : s ≤ 5) : Builtin.Range.small 0 s 1 = true ∧ Builtin.Range.rangeSize 0 s 1 = ((s.toNat : Nat) : Int) := by
  have := range_nat s.toNat (by omega)
  rw [Int.toNat_of_nonneg s0] at this ⊢
  exact this
theorem startN {S : Addr} {k0 : Nat} {s : Nat} {z0 : Z2} {sx : Int} {g h : Heap} {L D1 D2 : Addr} {o1 o2 : Obj} {m : Str → Option Value} {t1 t2 t3 tx ty : Tok} {ox oy oS : Obj}
    (F : Fr g L h m) (N : News g L h [(D2, o2), (D1, o1), (L + 1 + 1 + 1, oy), (L + 1 + 1, ox), (L + 1, oS)]) (e1 : m (Str.ofString "number") = some (.int 0 t1)) (e2 : m (Str.ofString "power") = some (.int 1 t2)) (e3 : m (Str.ofString "sixths") = some (.int sx t3))
    (d1 : cellOf oS (some (.ref S))) (d2 : cellOf ox (some (.int z0.1 tx))) (d3 : cellOf oy (some (.int z0.2 ty))) (hn : nrm z0 ≤ bd k0) : IN S s k0 z0 sx g L k0 h :=
  ⟨m, z0, 0, 1, t1, t2, t3, tx, ty, ox, oy, oS, 0, F, fun p hp => N p (.tail _ (.tail _ hp)), e1, e2, e3, d1, d2, d3, hn, by omega, rfl, by omega⟩
local macro_rules | `(tactic| walk_at "exec Assign cons ListComp") => `(tactic| (k_here; k_dflt (refine LCt.Assign_ListComp_T (F₀ := by k_asm) (by rfl) (by with_unfolding_all rfl) (by with_unfolding_all rfl) (by decide) (by rfl) (by decide) (by rfl) (by rfl) (by rfl) ?_)))
local macro_rules | `(tactic| walk_at "CompSrcT") => `(tactic| (k_here; k_dflt (refine LCt.CompSrcT.range (n := 16) (by rfl) (by k_asm) (by k_asm) (by with_reducible assumption) (by decide) (by rfl) (by exact Nat.le_of_ble_eq_true rfl) ?_); intro g'))
local macro_rules | `(tactic| walk_at "subscriptTail Name Constant ref int") => `(tactic| (k_here; k_dflt (refine item1_0 (News.isList (by k_asm) (by k_mem)) (by decide) ?_)))
local macro_rules | `(tactic| walk_at "subscriptTail Name Subscript ref int") => `(tactic| (k_here; k_dflt ((refine' item_at (stays_list (Fr.keep (by k_asm)) (by with_reducible assumption)) ?k1 ?k2 ?k3 ?_); (case k1 => omega); (case k2 => omega); (case k3 => with_reducible assumption))))
local macro_rules | `(tactic| walk_at "assign Tuple cons ref") => `(tactic| (k_here; (with_reducible show wpAny _ _ (assign (Expr.Tuple _ _ _) _ (Value.ref _)) _ _ _); k_dflt (refine' kun_list ?k1 ?k2 ?k3 ?k4 ?k5 ?k6 ?_; (case k1 => k_asm); (case k2 => k_asm); (case k3 => exact stays_list (Fr.keep (by k_asm)) (by with_reducible assumption)); (case k4 => exact rfl); (case k5 => exact rfl); (case k6 => exact rfl); k_whole); intro h' F' N'; (try k_sweep)))
local macro_rules | `(tactic| walk_at "subscriptTail Name Name ref int") => `(tactic| (k_here; k_dflt ((refine' item_at (stays_list (Fr.keep (by k_asm)) (by with_reducible assumption)) ?k1 ?k2 ?k3 ?_); (case k1 => omega); (case k2 => omega); (case k3 => with_reducible assumption))))
local macro_rules | `(tactic| walk_at "subscriptTail Subscript Name Name Constant ref int") => `(tactic| (k_here; k_dflt ((refine' item_three (stays_list (Fr.keep (by k_asm)) (by with_reducible assumption)) (by with_reducible assumption) ?k1 ?k2 ?_); (case k1 => decide); (case k2 => decide); intro t')))
local macro_rules | `(tactic| ktr_step) => `(tactic| repeat' (first | ((fail_if_success (with_reducible first | show LCg.FinA .. | show KeepEnd .. | show Cut .. | show LCt.CompRestT .. | show wpAny _ _ (exec (Stmt.While ..) ..) .. | show wpAny _ _ (pyIter _) (fun it s₂ => codeAny _ _ (Code.forLoop _ it _ [] _) _ s₂) _ _ | show ForEnd .. | show MEnd .. | show TurnEnd ..)); ktr_rel)))
local macro_rules | `(tactic| walk_at "subscriptTail Name Constant ref int") => `(tactic| (k_here; k_dflt (first | refine item3_0 (stays_list (Fr.keep (by k_asm)) (by with_reducible assumption)) (by decide) ?_ | refine item3_1 (stays_list (Fr.keep (by k_asm)) (by with_reducible assumption)) (by decide) ?_ | refine item3_2 (stays_list (Fr.keep (by k_asm)) (by with_reducible assumption)) (by decide) ?_)))
set_option maxRecDepth 100000 in
set_option maxHeartbeats 8000000 in
theorem c_number (w : World) (mean : ExcName → Option Value) (mg mb : Str → Option Value) (P S : Addr) (p0 p1 p2 sixths : Int) (k0 : Nat) (u0 u1 u2 t2 : Tok)
    (s0 : 0 ≤ sixths) (s5 : sixths ≤ 5) (hk0 : k0 ≤ 20) (hn : nrm (p0 - p2, p1 - p2) ≤ bd k0) :
    Contract w mean mg mb 62 2 [.ref P, .int sixths t2, .ref S] (fun h => h.IsList P #[Value.int p0 u0, .int p1 u1, .int p2 u2] ∧ ShAt h S)
      (fun _ _ v => ∃ t, v = .int (numb sixths.toNat k0 (p0 - p2, p1 - p2)) t) := by
  delta Contract Pg KK LS
  k_fill
  intro dp un gd cn cs a ccd cl outer A₀ base h₀ L m s Q E B F X T hk hd hu hpre hret
  w_top off
  k_dflt tb_start
  with_reducible rename _ = s.heap => eG
  rw [← eG] at hpre
  have hP := hpre.1
  refine hpre.2.el ?_; clear hpre
  intro its nS hS hsz rows
  have LS1 : Heap.IsList _ S its := ⟨_, hS, rfl, _, rfl⟩
  ktr_step
  refine while_ruleF (by k_asm) (IN S sixths.toNat k0 (p0 - p2, p1 - p2) sixths) k0 ?_ ?_
  · exact startN (by k_asm) (by k_asm) rfl rfl rfl (by assumption) (by assumption) (by assumption) hn
  · intro n h tk E' hI
    refine hI.el ?_; clear hI
    intro m1 z num pw t1 t2 t3 tx ty ox oy oS j F2 N2 e1 e2 e3 dS dx dy hnz hsum hpw hj
    replace F2 := Fr_see F2 e3
    replace F2 := Fr_see F2 ((if_neg (by decide)).trans e2)
    replace F2 := Fr_see F2 ((if_neg (by decide)).trans ((if_neg (by decide)).trans e1))
    refine wpAny_mono (Q := Cut z { heap := h, gens := s.gens, drawn := s.drawn, toks := tk, os := s.os }) ?cut ?rest (fun _ _ e => e)
    case cut =>
      ktr_step
      · exact Cut.mk1 (.inl (by assumption))
      · exact Cut.mk1 (.inr (by assumption))
      · exact Cut.mk0 (by omega) (by omega)
    case rest =>
      rintro b _ ⟨hb, tk', rfl⟩
      cases b with
      | false =>
        simp only [Bool.false_eq_true, if_false]
        have hz : z = (0, 0) := by
          by_cases e : z = (0, 0)
          · exact e
          · exact absurd (hb.mpr e) (by simp)
        subst hz
        rw [numb_zero, Int.mul_zero, Int.add_zero] at hsum
        ktr_step
        exact hret _ _ _ ⟨t1, by rw [← hsum]⟩ (keepOf eG F2)
      | true =>
        simp only [if_true]
        have hz : z ≠ (0, 0) := hb.mp rfl
        clear hb
        ktr_step
        refine compT_gen 16 (fitP z) (fun i => (i : Int)) trivial ?turn ?fin
        case turn =>
          rintro i v ys I oI C oC D m₂ h tk E' hi ⟨t, rfl⟩ hC hx F' N' off ne
          refine el_E3 (rows i hi) ?_
          intro a row nr hrow ha h3
          have LR1 : Heap.IsList _ a row := ⟨_, ha, rfl, _, rfl⟩
          have hidx : its[(0 + (i : Int)).toNat]? = some (.ref a) := by rw [show (0 + (i : Int)).toNat = i by omega]; exact hrow
          clear hz hsum hnz
          ktr_step
          · exact KeepEnd.intro (by k_asm) (by k_asm) (fun _ h => h) ⟨fitP_t (by assumption) (by assumption), t, by rw [Int.zero_add]⟩
          · exact KeepEnd.intro (by k_asm) (by k_asm) (fun _ h => h) (fitP_f2 (by assumption))
          · exact KeepEnd.intro (by k_asm) (by k_asm) (fun _ h => h) (fitP_f1 (by assumption))
        case fin =>
          intro ys hys
          obtain ⟨d, hd, hf, hfit⟩ := fits_one z
          rw [show List.filter (fitP z) (List.range 16) = [d] from hf] at hys
          replace hys : IntsAre ys [(d : Int)] := hys
          obtain ⟨td, rfl⟩ := ints_one hys
          clear hys
          refine el_E3 (rows d hd) ?_
          intro a row nr hrow ha h3
          have LR1 : Heap.IsList _ a row := ⟨_, ha, rfl, _, rfl⟩
          obtain ⟨v0, v1, v2, rfl⟩ := h3.get
          have hidx : its[((d : Int)).toNat]? = some (.ref a) := by rw [show ((d : Int)).toNat = d by omega]; exact hrow
          unfold LCg.FinA
          intro D h tk F' N' o1
          ktr_step
          with_reducible rename News _ _ _ _ => N3
          obtain ⟨news, N4, hJ⟩ := startS (z1 := lowZ z d) (by k_asm) N3 (by assumption) (by assumption)
          obtain ⟨rs1, rs2⟩ := range_of s0 s5
          refine for_range (n := sixths.toNat) rfl (by with_reducible assumption) rs1 rs2 (by k_asm) N4 (JS _ _ _ _ _ (lowZ z d)) hJ ?turn2 ?done2 (by intro _ _; rfl)
          · clear N4 hJ N3 rs1 rs2
            intro i t I m₁ news₁ oI h tk E' hi hJ _ off F' N'
            refine hJ.el ?_; clear hJ
            intro tx ty ox oy hm e9 dx dy
            subst e9
            replace off := allNe_of off
            have off2 := off
            dsimp only [AllNe] at off2
            refine el_a5 off2 ?_; clear off2
            intro f1 f2 f3 f4 _
            dsimp only [LCg.Off1] at o1
            ktr_step
            with_reducible rename News _ _ _ _ => N5
            exact endS (by k_asm) N5 (fun y hy => (if_neg hy).trans (hm y hy)) (by assumption) (by assumption) rfl rfl off
          · clear N4 hJ N3
            intro m₁ news₁ h tk hJ F' N'
            refine hJ.el ?_; clear hJ
            intro tx ty ox oy hm e9 dx dy
            subst e9
            replace F' := Fr_see F' ((hm (Str.ofString "power") (by decide)).trans rfl)
            replace F' := Fr_see F' ((if_neg (by decide)).trans ((hm (Str.ofString "number") (by decide)).trans rfl))
            replace F' := Fr_see F' ((if_neg (by decide)).trans ((if_neg (by decide)).trans ((hm (Str.ofString "fits") (by decide)).trans rfl)))
            replace F' := Fr_see F' ((if_neg (by decide)).trans ((if_neg (by decide)).trans ((if_neg (by decide)).trans ((hm (Str.ofString "sixths") (by decide)).trans rfl))))
            clear hm
            ktr_step
            with_reducible rename News _ _ _ _ => N5
            exact endN (by k_asm) N5 rfl rfl rfl dS dx dy hz hnz hsum hpw hj hfit
end Mine
end
/-! part L6 -/
section
open PySem PySem.W PyProof.Rows PyProof.Rows.LCg PySem.Calls PySem.Spec
set_option linter.unusedVariables false
namespace Mine
section
variable {prog : Program} {w : World} {A : Around} {E : Value → Shared → Prop} {s : Shared} {h₀ : Heap} {L : Addr} {m : Str → Option Value} {env : Env}
/-- what one element of a comprehension over enumerate(list) does: it reckons, no more -/
def EnumTurn (prog : Program) (w : World) (A : Around) (h₀ : Heap) (L : Addr) (m : Str → Option Value) (env : Env) (elt : Expr) (x x₂ : Str) (scope : Scope) (cl : List (Str × Addr)) (s : Shared) (items : Array Value) (news : List (Addr × Obj)) (val : Nat → Int) : Prop :=
  ∀ (i : Nat) (t : Tok) (xv : Value) (C : Addr) (oC : Obj) (D : Addr) (ys : List Value) (m₂ : Str → Option Value) (h : Heap) (tk : Nat) (E' : Value → Shared → Prop), items[i]? = some xv → NsObj oC m₂ → m₂ x = some (.int (i : Int) t) → m₂ x₂ = some xv → Fr h₀ L h m → News h₀ L h ((C, oC) :: (D, lst ys) :: news) →
    wpAny (model prog w) A (eval elt (compEnvC scope cl C env)) (fun y s' => (∃ t', y = .int (val i) t') ∧ ∃ tk', s' = { s with heap := h, toks := tk' }) E' { s with heap := h, toks := tk }
theorem block_E {elt iter : Expr} {x x₂ : Str} {px px₂ tp : Pos} {tk : Nat} {scope : Scope} {cl : List (Str × Addr)} {pos : Pos} {s₂ : Shared} {e it l : Addr} {items : Array Value} {news : List (Addr × Obj)} {RR : Value → Addr → Result → Shared → Prop} (val : Nat → Int)
    (hh : A.handled = none) (hei : e ≠ it) (hle : l ≠ e) (hli : l ≠ it) (hsz : items.size ≤ sizeLine)
    (hcell : ∀ y ∈ scope.names, y.2 ≠ .cell) (hkind : scope.kind = .function) (hx : scope.names.lookup x = some .local) (hx₂ : scope.names.lookup x₂ = some .local) (hxx : x ≠ x₂)
    (hst : (∃ old, IsEnum s₂.heap e it ((0 : Nat) : Int) old) ∧ s₂.heap.IsListIter it l 0 ∧ s₂.heap.IsList l items)
    (hfp : ∀ b ∈ [e, it, l], b < s₂.heap.objs.size)
    (F : Fr h₀ L s₂.heap m) (N : News h₀ L s₂.heap news) (hIL : L ≠ e ∧ L ≠ it) (hI₀ : h₀.get? e = none ∧ h₀.get? it = none) (off : ∀ p ∈ news, p.1 ≠ e ∧ p.1 ≠ it)
    (turn : EnumTurn prog w A h₀ L m env elt x x₂ scope cl s₂ items news val)
    (hRR : ∀ D C h tk m' ys, IntsAre ys ((List.range items.size).map val) → Fr h₀ L h m → News h₀ L h ((D, lst ys) :: news) → Off1 D news → h.Ns C m' → h₀.get? C = none → h₀.get? D = none → C ≠ L → D ≠ L → C ≠ D → (∀ p ∈ news, p.1 ≠ C) → RR (.ref D) C (.ok .next) { s₂ with heap := h, toks := tk }) :
    wpAny (model prog w) A (newList []) (fun acc s₃ => wpAny (model prog w) A (newFunctionEnv scope env.globals cl [] env.qual none .none (some env)) (fun cenv s₄ =>
      codeAny (model prog w) A (.compStart (.ListComp elt [⟨.Tuple [.Name x px, .Name x₂ px₂] tk tp, iter, [], 0⟩] scope pos) 0 (.ref e) acc { cenv with scope := relabel scope env }) (RR acc cenv.locals) s₄) E s₃) E s₂ := by
  have W := WalksT.enumerate (prog := prog) (w := w) hh e it l hei hle hli items
  refine wpAny_newObj_type (wpAny_newFunctionEnv hcell (by intro y hy; simp at hy) (fun h₁ hns₁ hsb₁ => ?_) hkind)
  dsimp only at hns₁ hsb₁ ⊢
  generalize hH2 : s₂.heap.push { cls := .type "list", dict := none, data := .seq ([] : List Value).toArray } = H2 at hns₁ hsb₁ ⊢
  have hC : H2.objs.size = s₂.heap.objs.size + 1 := by rw [← hH2, Heap.size_push]
  have hDC : s₂.heap.objs.size ≠ H2.objs.size := by rw [hC]; exact Nat.ne_of_lt (Nat.lt_succ_self _)
  have below : ∀ b, b < s₂.heap.objs.size → b ≠ H2.objs.size ∧ b ≠ s₂.heap.objs.size := fun b hb => ⟨by rw [hC]; exact Nat.ne_of_lt (Nat.lt_succ_of_lt hb), Nat.ne_of_lt hb⟩
  have old : ∀ b o, s₂.heap.get? b = some o → h₁.get? b = some o := fun b o e => hsb₁.extBut b o (below b (Heap.lt_size e)).1 (Heap.get?_push_of_some _ (hH2 ▸ Heap.get?_push_of_some _ e))
  have hacc : h₁.get? s₂.heap.objs.size = some (lst []) := hsb₁.extBut _ _ hDC (Heap.get?_push_of_some _ (hH2 ▸ Heap.get?_push_size _ rfl))
  have hst₁ := W.frame 0 _ _ hst fun b _ o e => old b o e
  have fresh : ∀ a, s₂.heap.objs.size ≤ a → s₂.heap.get? a = none := fun a ha => by
    cases e : s₂.heap.get? a with
    | none => rfl
    | some o' => exact absurd (Heap.lt_size e) (Nat.not_lt.mpr ha)
  have fresh₀ : ∀ a, s₂.heap.objs.size ≤ a → h₀.get? a = none := fun a ha => by
    cases e : h₀.get? a with
    | none => rfl
    | some o' => have := F.keep a o' e; rw [fresh a ha] at this; cases this
  have hD₀ : h₀.get? s₂.heap.objs.size = none := fresh₀ _ (Nat.le_refl _)
  have hC₀ : h₀.get? H2.objs.size = none := fresh₀ _ (by rw [hC]; exact Nat.le_succ _)
  have hLlt : L < s₂.heap.objs.size := F.ns.lt
  have hDL : s₂.heap.objs.size ≠ L := Ne.symm (below L hLlt).2
  have hCL : H2.objs.size ≠ L := Ne.symm (below L hLlt).1
  have fpC : ∀ b ∈ [e, it, l], b ≠ H2.objs.size := fun b hb => (below b (hfp b hb)).1
  have fpD : ∀ b ∈ [e, it, l], b ≠ s₂.heap.objs.size := fun b hb => (below b (hfp b hb)).2
  have offC : ∀ p ∈ news, p.1 ≠ H2.objs.size := fun p hp => (below _ (Heap.lt_size (N p hp).1)).1
  have offD : ∀ p ∈ news, p.1 ≠ s₂.heap.objs.size := fun p hp => (below _ (Heap.lt_size (N p hp).1)).2
  have nwr : ∀ b, b ≠ e → b ≠ it → b ∉ [e, it] := fun b h1 h2 hm => by
    rcases List.mem_cons.mp hm with h | hm
    · exact h1 h
    · exact h2 (List.mem_singleton.mp hm)
  have Cwr : H2.objs.size ∉ [e, it] := nwr _ (Ne.symm (fpC e (by simp))) (Ne.symm (fpC it (by simp)))
  have Dwr : s₂.heap.objs.size ∉ [e, it] := nwr _ (Ne.symm (fpD e (by simp))) (Ne.symm (fpD it (by simp)))
  have Lwr : L ∉ [e, it] := nwr _ hIL.1 hIL.2
  have Fbut : ∀ {h h' : Heap}, Fr h₀ L h m → (∀ b o, b ∉ [e, it] → h.get? b = some o → h'.get? b = some o) → Fr h₀ L h' m := fun F' hk =>
    ⟨F'.ns.at' fun o q => hk L o Lwr q, fun b o q => hk b o (nwr _ (fun h => by rw [h, hI₀.1] at q; cases q) (fun h => by rw [h, hI₀.2] at q; cases q)) (F'.keep b o q), F'.above⟩
  have Nbut : ∀ {h h' : Heap} {ys : List Value}, News h₀ L h ((s₂.heap.objs.size, lst ys) :: news) → (∀ b o, b ∉ [e, it] → h.get? b = some o → h'.get? b = some o) → News h₀ L h' ((s₂.heap.objs.size, lst ys) :: news) := fun N' hk p hp => by
    refine ⟨hk _ _ ?_ (N' p hp).1, (N' p hp).2⟩
    rcases List.mem_cons.mp hp with rfl | hp
    · exact Dwr
    · exact nwr _ (off p hp).1 (off p hp).2
  have loop : ∀ s₃ : Shared, s₃ = { s₂ with heap := h₁, toks := s₂.toks + ([] : List (Str × Value)).length } →
      codeAny (model prog w) A (.compLoop (.ListComp elt [⟨.Tuple [.Name x px, .Name x₂ px₂] tk tp, iter, [], 0⟩] scope pos) 0 (.ref e) (.ref s₂.heap.objs.size) (compEnvC scope cl H2.objs.size env))
        (RR (.ref s₂.heap.objs.size) H2.objs.size) s₃ := by
    rintro s₃ rfl
    refine LCp.codeAny_compLoop_pair
      (fun k s' => ∃ h' tk i ys m', s' = { s₂ with heap := h', toks := tk } ∧ i ≤ items.size ∧ k = items.size + 1 - i ∧ ys.length = i ∧ IntsAre ys ((List.range i).map val) ∧
        ((∃ old, IsEnum h' e it (i : Int) old) ∧ h'.IsListIter it l i ∧ h'.IsList l items) ∧ Fr h₀ L h' m ∧ h'.Ns H2.objs.size m' ∧ News h₀ L h' ((s₂.heap.objs.size, lst ys) :: news)) ?_ (items.size + 1)
      ⟨h₁, _, 0, [], _, rfl, Nat.zero_le _, rfl, rfl, .nil, hst₁, F.keeps old, hns₁, fun p hp => ?_⟩
    · intro k s' hI
      refine el_E5 hI ?_
      clear hI
      intro h' tk i ys m' hI
      refine el_a9 hI ?_
      clear hI
      intro e8 hi e9 hyl hys hst' F' hn' N'
      subst e8 e9
      by_cases hlt : i < items.size
      · refine W.item i _ _ _ hlt hst' fun T vals h₂ tk₂ hPv hTs hT hMid hk₂ => ?_
        obtain ⟨t, xv, hxv, rfl⟩ := hPv
        refine W.go _ _ _ i T _ _ _ hMid fun h₃ hst₃ hk₃ => ?_
        have hTwr := W.apart i T h₂ hMid
        have hT₃ : h₃.IsTuple T #[.int (i : Int) t, xv] := by obtain ⟨o, ho, r⟩ := hT; exact ⟨o, hk₃ T o hTwr ho, r⟩
        have hn₃ : h₃.Ns H2.objs.size m' := (hn'.at' fun o q => hk₂ _ o Cwr q).at' fun o q => hk₃ _ o Cwr q
        have F₃ := Fbut (Fbut F' hk₂) hk₃
        have N₃ := Nbut (Nbut N' hk₂) hk₃
        refine wpAny_assign_Tuple hh hT₃ rfl rfl fun h₅ he => ?_
        have he' : ∀ b o, h₃.get? b = some o → h₅.get? b = some o := fun b o q => he b o (Nat.ne_of_lt (Heap.lt_size q)) q
        refine assignInOrder_cons (wpAny_assign_Name (wpAny_storeName_local (lookup_relabel_local hx) (hn₃.at' fun o q => he' _ o q) (fun h₆ hn₆ hs₆ => ?_) (by simp [compEnvC, relabel, hkind])))
        refine assignInOrder_cons (wpAny_assign_Name (wpAny_storeName_local (lookup_relabel_local hx₂) hn₆ (fun h₇ hn₇ hs₇ => ?_) (by simp [compEnvC, relabel, hkind])))
        refine assignInOrder_nil ?_
        have old7 : ∀ b o, b ≠ H2.objs.size → h₃.get? b = some o → h₇.get? b = some o := fun b o hb q => hs₇.extBut b o hb (hs₆.extBut b o hb (he' b o q))
        have hst₇ := W.frame (i + 1) h₃ h₇ hst₃ fun b hb o q => old7 b o (fpC b hb) q
        obtain ⟨oC, heC, hoC⟩ := ns_obj hn₇
        have F₇ : Fr h₀ L h₇ m := ((F₃.keeps he').change hs₆ hCL hC₀).change hs₇ hCL hC₀
        have N₇ : News h₀ L h₇ ((H2.objs.size, oC) :: (s₂.heap.objs.size, lst ys) :: news) := fun p hp => by
          rcases List.mem_cons.mp hp with rfl | hp
          · exact ⟨heC, hCL, hC₀⟩
          · have z := N₃ p hp
            refine ⟨old7 _ _ ?_ z.1, z.2⟩
            rcases List.mem_cons.mp hp with rfl | hp
            · exact hDC
            · exact offC p hp
        refine wpAny_mono (turn i t xv H2.objs.size oC s₂.heap.objs.size ys _ h₇ _ _ hxv hoC (by simp [hxx]) (by simp) F₇ N₇) (fun y s₄ h₄ => ?_) fun _ _ q => q
        obtain ⟨⟨t', rfl⟩, tk', rfl⟩ := h₄
        have zD := (N₇ (s₂.heap.objs.size, lst ys) (List.mem_cons_of_mem _ List.mem_cons_self)).1
        refine append_at (hsz := by show ys.toArray.size ≤ sizeLine; rw [List.size_toArray, hyl]; exact Nat.le_trans hi hsz) zD fun h₈ hs₈ hD₈ => ?_
        refine ⟨items.size + 1 - (i + 1), by omega, h₈, tk', i + 1, ys ++ [.int (val i) t'], _, rfl, hlt, rfl, by rw [List.length_append, List.length_singleton, hyl], ?_, W.frame (i + 1) h₇ h₈ hst₇ fun b hb o q => hs₈.extBut b o (fpD b hb) q, F₇.change hs₈ hDL hD₀,
          (hoC.ns heC).sameBut hs₈ (Ne.symm hDC), fun p hp => ?_⟩
        · rw [List.range_succ, List.map_append]; exact ints_snoc hys
        · rcases List.mem_cons.mp hp with rfl | hp
          · exact ⟨hD₈.trans (congrArg some (lst_snoc ys _)), hDL, hD₀⟩
          · have z := N₇ p (List.mem_cons_of_mem _ (List.mem_cons_of_mem _ hp))
            exact ⟨hs₈.extBut _ _ (offD p hp) z.1, z.2⟩
      · obtain rfl : i = items.size := Nat.le_antisymm hi (Nat.not_lt.mp hlt)
        refine W.done _ _ _ hst' fun h₂ tk₂ hk₂ => ?_
        exact hRR _ _ h₂ tk₂ _ ys hys (Fbut F' hk₂) (Nbut N' hk₂) (by
          have : ∀ {l : List (Addr × Obj)}, (∀ p ∈ l, p.1 ≠ s₂.heap.objs.size) → Off1 s₂.heap.objs.size l := by
            intro l hl
            induction l with
            | nil => trivial
            | cons p r ih => exact ⟨hl p (.head _), ih fun q hq => hl q (.tail _ hq)⟩
          exact this offD) (hn'.at' fun o q => hk₂ _ o Cwr q) hC₀ hD₀ hCL hDL (Ne.symm hDC) offC
    · rcases List.mem_cons.mp hp with rfl | hp
      · exact ⟨hacc, hDL, hD₀⟩
      · exact ⟨old _ _ (N p hp).1, (N p hp).2⟩
  exact codeAny_compStart_list (loop _ rfl) (W.self 0 _ _ _ hst₁ (loop _ rfl))
/-- a comprehension over enumerate(list) -/
def SrcE (prog : Program) (w : World) (A : Around) (h₀ : Heap) (L : Addr) (m : Str → Option Value) (env : Env) (elt : Expr) (x x₂ : Str) (scope : Scope) (cl : List (Str × Addr)) (Q : Value → Shared → Prop) (xv : Value) (s₁ : Shared) : Prop :=
  ∃ (e it l : Addr) (items : Array Value) (news : List (Addr × Obj)) (val : Nat → Int), xv = .ref e ∧ A.handled = none ∧ e ≠ it ∧ l ≠ e ∧ l ≠ it ∧ items.size ≤ sizeLine ∧
    ((∃ old, IsEnum s₁.heap e it ((0 : Nat) : Int) old) ∧ s₁.heap.IsListIter it l 0 ∧ s₁.heap.IsList l items) ∧ (∀ b ∈ [e, it, l], b < s₁.heap.objs.size) ∧
    Fr h₀ L s₁.heap m ∧ News h₀ L s₁.heap news ∧ (L ≠ e ∧ L ≠ it) ∧ (h₀.get? e = none ∧ h₀.get? it = none) ∧ (∀ p ∈ news, p.1 ≠ e ∧ p.1 ≠ it) ∧
    EnumTurn prog w A h₀ L m env elt x x₂ scope cl s₁ items news val ∧
    (∀ D h tk ys, IntsAre ys ((List.range items.size).map val) → Fr h₀ L h m → News h₀ L h ((D, lst ys) :: news) → Off1 D news → Q (.ref D) { s₁ with heap := h, toks := tk })
theorem ListComp_E {elt iter : Expr} {x x₂ : Str} {px px₂ tp : Pos} {tk} {scope : Scope} {cl : List (Str × Addr)} {pos : Pos} {Q : Value → Shared → Prop} (F₀ : Fr h₀ L s.heap m)
    (hclos : closureFor scope env = pure cl) (hcell : ∀ y ∈ scope.names, y.2 ≠ .cell) (hkind : scope.kind = .function)
    (hnames : ∀ y ∈ scope.names, y.2 = .local → scope.names.lookup y.1 = some .local) (hx : scope.names.lookup x = some .local) (hx₂ : scope.names.lookup x₂ = some .local) (hxx : x ≠ x₂)
    (h : wpAny (model prog w) A (eval iter env) (SrcE prog w A h₀ L m env elt x x₂ scope cl Q) E s)
    (hs : ∀ x, foldedSetIterable iter env x = pure x := by intro _; rfl) :
    wpAny (model prog w) A (eval (.ListComp elt [⟨.Tuple [.Name x px, .Name x₂ px₂] tk tp, iter, [], 0⟩] scope pos) env) Q E s := by
  rw [eval_ListComp]
  refine wpAny_comprehension_free (use := none) rfl hs hclos hkind hnames (wpAny_mono h (fun xv s₁ h₁ => ?_) fun _ _ e => e)
  refine el_E6 h₁ ?_
  clear h₁
  intro e it l items news val h
  refine el_a8 h ?_
  clear h
  intro e9 hh hei hle hli hsz hst h
  refine el_a8 h ?_
  clear h
  intro hfp F N hIL hI₀ off turn fin
  subst e9
  obtain ⟨old, he⟩ := hst.1
  refine wpAny_pyIter_enum he ?_
  refine block_E val hh hei hle hli hsz hcell hkind hx hx₂ hxx hst hfp F N hIL hI₀ off turn ?_
  intro D C h tk m' ys hys F' N' o1 hn hC₀ hD₀ hCL hDL hCD offC
  refine ⟨m', hn, fun h'' hs'' => fin D h'' tk ys hys (F'.change hs'' hCL hC₀) (fun p hp => ?_) o1⟩
  refine ⟨hs''.extBut _ _ ?_ (N' p hp).1, (N' p hp).2⟩
  rcases List.mem_cons.mp hp with rfl | hp
  · exact Ne.symm hCD
  · exact offC p hp
theorem enum_src {elt : Expr} {x x₂ : Str} {scope : Scope} {cl : List (Str × Addr)} {Q : Value → Shared → Prop} {l : Addr} {items : Array Value} {news : List (Addr × Obj)} (val : Nat → Int)
    (hh : A.handled = none) (F : Fr h₀ L s.heap m) (N : News h₀ L s.heap news) (hl : s.heap.IsList l items) (hsz : items.size ≤ sizeLine)
    (turn : ∀ g, EnumTurn prog w A h₀ L m env elt x x₂ scope cl { s with heap := g } items news val)
    (fin : ∀ (g : Heap) D h tk ys, IntsAre ys ((List.range items.size).map val) → Fr h₀ L h m → News h₀ L h ((D, lst ys) :: news) → Off1 D news → Q (.ref D) { s with heap := h, toks := tk }) :
    wpAny (model prog w) A (call (.type "enumerate") [.ref l]) (SrcE prog w A h₀ L m env elt x x₂ scope cl Q) E s := by
  have hlt : l < s.heap.objs.size := by obtain ⟨_, e, _⟩ := hl; exact Heap.lt_size e
  refine call_enumerate_list hl fun h' he hit hs' hk => ?_
  refine ⟨_, _, l, items, news, val, rfl, hh, Nat.ne_of_gt (Nat.lt_succ_self _), Nat.ne_of_lt (Nat.lt_succ_of_lt hlt), Nat.ne_of_lt hlt, hsz, ⟨⟨_, he⟩, hit, hl.at fun o q => hk l o q⟩, ?_, F.keeps hk, N.grown hk, ?_, ?_, ?_, turn _, fun D h tk ys a b c d => fin h' D h tk ys a b c d⟩
  · intro b hb
    show b < h'.objs.size
    rw [hs']
    simp only [List.mem_cons, List.not_mem_nil, or_false] at hb
    rcases hb with rfl | rfl | rfl
    · exact Nat.lt_succ_self _
    · exact Nat.lt_succ_of_lt (Nat.lt_succ_self _)
    · exact Nat.lt_succ_of_lt (Nat.lt_succ_of_lt hlt)
  · have := F.ns.lt
    exact ⟨Nat.ne_of_lt (Nat.lt_succ_of_lt this), Nat.ne_of_lt this⟩
  · have fresh₀ : ∀ a, s.heap.objs.size ≤ a → h₀.get? a = none := fun a ha => by
      cases e : h₀.get? a with
      | none => rfl
      | some o' => exact absurd (Heap.lt_size (F.keep a o' e)) (Nat.not_lt.mpr ha)
    exact ⟨fresh₀ _ (Nat.le_succ _), fresh₀ _ (Nat.le_refl _)⟩
  · intro p hp
    have := Heap.lt_size (N p hp).1
    exact ⟨Nat.ne_of_lt (Nat.lt_succ_of_lt this), Nat.ne_of_lt this⟩
end
end Mine
end
/-! part L7 -/
section
open PySem PySem.W PyProof.Rows PyProof.Rows.LCg PySem.Calls PySem.Spec
set_option linter.unusedVariables false
namespace Mine
abbrev cellObj : Obj := { cls := .type "cell", data := .cell none }
section
variable {prog : Program} {w : World} {A : Around} {E : Value → Shared → Prop} {s : Shared} {h₀ : Heap} {L : Addr} {m : Str → Option Value} {env : Env}
theorem newFE_cell {scope : Scope} {globals : Addr} {cl : List (Str × Addr)} {qual : Str} {x : Str} {Q : Env → Shared → Prop}
    (hc : cellsFrom (s.heap.objs.size + 1) scope.names cl = (x, s.heap.objs.size + 1) :: cl) (hp : ∀ h : Heap, pushCells h scope.names = h.push cellObj)
    (hQ : Q (newEnv scope s.heap.objs.size globals ((x, s.heap.objs.size + 1) :: cl) qual none .none (some env) builtinsNs) { s with heap := (s.heap.push { cls := .type "dict", data := .dict #[] }).push cellObj }) :
    wpAny (model prog w) A (newFunctionEnv scope globals cl [] qual none .none (some env)) Q E s := by
  simp only [newFunctionEnv, Option.isSome_some, if_true]
  refine wpAny_bind (wpAny_alloc ?_)
  refine wpAny_bind (wpAny_layCells _ (fun name kind cells => by cases hkc : kind == NameKind.cell <;> simp [hkc]) _ _ _ _ ?_)
  rw [show ({ s with heap := s.heap.push { cls := .type "dict", data := .dict #[] } } : Shared).heap.objs.size = s.heap.objs.size + 1 from Heap.size_push ..]
  rw [hc, hp]
  rw [List.forIn_nil]
  exact wpAny_bind (wpAny_pure (wpAny_pure hQ))
def CellEnd (h₀ : Heap) (L : Addr) (m : Str → Option Value) (s : Shared) (led : List (Addr × Obj)) (V : Int) (y : Value) (s' : Shared) : Prop :=
  (∃ t', y = .int V t') ∧ ∃ h' tk', s' = { s with heap := h', toks := tk' } ∧ Fr h₀ L h' m ∧ News h₀ L h' led
theorem CellEnd.mk {led all : List (Addr × Obj)} {V V' : Int} {t : Tok} {h : Heap} {tk : Nat} (F : Fr h₀ L h m) (N : News h₀ L h all) (sub : ∀ p ∈ led, p ∈ all) (e : V' = V) : CellEnd h₀ L m s led V (.int V' t) { s with heap := h, toks := tk } := by
  subst e; exact ⟨⟨t, rfl⟩, h, tk, rfl, F, fun p hp => N p (sub p hp)⟩
/-- what one element of a comprehension does whose own name is a cell -/
def CellTurn (prog : Program) (w : World) (A : Around) (h₀ : Heap) (L : Addr) (m : Str → Option Value) (env : Env) (elt : Expr) (x : Str) (scope : Scope) (cl : List (Str × Addr)) (s : Shared) (items : Array Value) (news : List (Addr × Obj)) (val : Nat → Int) : Prop :=
  ∀ (i : Nat) (v : Value) (I : Addr) (oI : Obj) (C : Addr) (oC : Obj) (c : Addr) (oc : Obj) (D : Addr) (ys : List Value) (h : Heap) (tk : Nat) (E' : Value → Shared → Prop), items[i]? = some v → oc.data = .cell (some v) → Fr h₀ L h m →
    News h₀ L h ((I, oI) :: (C, oC) :: (c, oc) :: (D, lst ys) :: news) →
    wpAny (model prog w) A (eval elt (compEnvC scope ((x, c) :: cl) C env)) (CellEnd h₀ L m s ((I, oI) :: (C, oC) :: (c, oc) :: (D, lst ys) :: news) (val i)) E' { s with heap := h, toks := tk }
theorem block_C {elt iter : Expr} {x : Str} {px : Pos} {scope : Scope} {cl : List (Str × Addr)} {pos : Pos} {s₂ : Shared} {I ax : Addr} {items : Array Value} {k₀ : Nat} {news : List (Addr × Obj)} {RR : Value → Addr → Result → Shared → Prop} (val : Nat → Int)
    (hh : A.handled = none) (hne : ax ≠ I) (hsz : items.size ≤ sizeLine)
    (hc : ∀ n, cellsFrom n scope.names cl = (x, n) :: cl) (hp : ∀ h : Heap, pushCells h scope.names = h.push cellObj) (hkind : scope.kind = .function) (hx : ∀ cl' C, (compEnvC scope cl' C env).kindOf x = some .cell)
    (hst : s₂.heap.IsListIter I ax 0) (hm : (ax, ({ cls := .type "list", data := .seq items k₀ } : Obj)) ∈ news)
    (hfp : I < s₂.heap.objs.size)
    (F : Fr h₀ L s₂.heap m) (N : News h₀ L s₂.heap news) (hIL : L ≠ I) (hI₀ : h₀.get? I = none) (off : ∀ p ∈ news, p.1 ≠ I)
    (turn : CellTurn prog w A h₀ L m env elt x scope cl s₂ items news val)
    (hRR : ∀ D C h tk m' ys, IntsAre ys ((List.range items.size).map val) → Fr h₀ L h m → News h₀ L h ((D, lst ys) :: news) → Off1 D news → h.Ns C m' → h₀.get? C = none → h₀.get? D = none → C ≠ L → D ≠ L → C ≠ D → (∀ p ∈ news, p.1 ≠ C) → RR (.ref D) C (.ok .next) { s₂ with heap := h, toks := tk }) :
    wpAny (model prog w) A (newList []) (fun acc s₃ => wpAny (model prog w) A (newFunctionEnv scope env.globals cl [] env.qual none .none (some env)) (fun cenv s₄ =>
      codeAny (model prog w) A (.compStart (.ListComp elt [⟨.Name x px, iter, [], 0⟩] scope pos) 0 (.ref I) acc { cenv with scope := relabel scope env }) (RR acc cenv.locals) s₄) E s₃) E s₂ := by
  have W := Walks.list (prog := prog) (w := w) hh I ax hne items
  refine wpAny_newObj_type ?_
  try dsimp only
  generalize hH2 : s₂.heap.push { cls := .type "list", dict := none, data := .seq ([] : List Value).toArray } = H2
  have hC : H2.objs.size = s₂.heap.objs.size + 1 := by rw [← hH2, Heap.size_push]
  refine newFE_cell (x := x) (hc _) hp ?_
  dsimp only
  generalize hc2 : H2.objs.size + 1 = c
  generalize hh1 : (H2.push { cls := .type "dict", data := .dict #[] }).push cellObj = h₁
  have hDC : s₂.heap.objs.size ≠ H2.objs.size := by rw [hC]; exact Nat.ne_of_lt (Nat.lt_succ_self _)
  have hDc : s₂.heap.objs.size ≠ c := by rw [← hc2, hC]; exact Nat.ne_of_lt (Nat.lt_succ_of_lt (Nat.lt_succ_self _))
  have hCc : H2.objs.size ≠ c := by rw [← hc2]; exact Nat.ne_of_lt (Nat.lt_succ_self _)
  have below : ∀ b, b < s₂.heap.objs.size → b ≠ H2.objs.size ∧ b ≠ s₂.heap.objs.size ∧ b ≠ c := fun b hb => ⟨by rw [hC]; exact Nat.ne_of_lt (Nat.lt_succ_of_lt hb), Nat.ne_of_lt hb, by rw [← hc2, hC]; exact Nat.ne_of_lt (Nat.lt_succ_of_lt (Nat.lt_succ_of_lt hb))⟩
  have old : ∀ b o, s₂.heap.get? b = some o → h₁.get? b = some o := fun b o e => by
    rw [← hh1]; exact Heap.get?_push_of_some _ (Heap.get?_push_of_some _ (hH2 ▸ Heap.get?_push_of_some _ e))
  have hacc : h₁.get? s₂.heap.objs.size = some (lst []) := by
    rw [← hh1]; exact Heap.get?_push_of_some _ (Heap.get?_push_of_some _ (hH2 ▸ Heap.get?_push_size _ rfl))
  have hns₁ : h₁.Ns H2.objs.size fun _ => none := (Heap.Ns.new H2 (.type "dict")).at' fun o e => by rw [← hh1]; exact Heap.get?_push_of_some _ e
  have hcell₁ : h₁.get? c = some cellObj := by
    rw [← hh1, ← hc2, show H2.objs.size + 1 = (H2.push { cls := .type "dict", data := .dict #[] }).objs.size from (Heap.size_push ..).symm]; exact Heap.get?_push_size _ rfl
  have fresh₀ : ∀ a, s₂.heap.objs.size ≤ a → h₀.get? a = none := fun a ha => by
    cases e : h₀.get? a with
    | none => rfl
    | some o' => exact absurd (Heap.lt_size (F.keep a o' e)) (Nat.not_lt.mpr ha)
  have hD₀ : h₀.get? s₂.heap.objs.size = none := fresh₀ _ (Nat.le_refl _)
  have hC₀ : h₀.get? H2.objs.size = none := fresh₀ _ (by rw [hC]; exact Nat.le_succ _)
  have hc₀ : h₀.get? c = none := fresh₀ _ (by rw [← hc2, hC]; exact Nat.le_succ_of_le (Nat.le_succ _))
  have hLlt : L < s₂.heap.objs.size := F.ns.lt
  have hDL : s₂.heap.objs.size ≠ L := Ne.symm (below L hLlt).2.1
  have hCL : H2.objs.size ≠ L := Ne.symm (below L hLlt).1
  have hcL : c ≠ L := Ne.symm (below L hLlt).2.2
  have hIC := below I hfp
  have offN : ∀ p ∈ news, p.1 ≠ H2.objs.size ∧ p.1 ≠ s₂.heap.objs.size ∧ p.1 ≠ c := fun p hp => below _ (Heap.lt_size (N p hp).1)
  have hst₁ : h₁.IsListIter I ax 0 := by obtain ⟨o, e, r⟩ := hst; exact ⟨o, old _ _ e, r⟩
  have N₁ : News h₀ L h₁ ((s₂.heap.objs.size, lst []) :: news) := fun p hp => by
    rcases List.mem_cons.mp hp with rfl | hp
    · exact ⟨hacc, hDL, hD₀⟩
    · exact ⟨old _ _ (N p hp).1, (N p hp).2⟩
  have loop : ∀ s₃ : Shared, s₃ = { s₂ with heap := h₁ } →
      codeAny (model prog w) A (.compLoop (.ListComp elt [⟨.Name x px, iter, [], 0⟩] scope pos) 0 (.ref I) (.ref s₂.heap.objs.size) (compEnvC scope ((x, c) :: cl) H2.objs.size env))
        (RR (.ref s₂.heap.objs.size) H2.objs.size) s₃ := by
    rintro s₃ rfl
    refine codeAny_compLoop_tests
      (fun k s' => ∃ h' tk i ys oc vc, s' = { s₂ with heap := h', toks := tk } ∧ i ≤ items.size ∧ k = items.size + 1 - i ∧ ys.length = i ∧ IntsAre ys ((List.range i).map val) ∧
        h'.IsListIter I ax i ∧ Fr h₀ L h' m ∧ h'.Ns H2.objs.size (fun _ => none) ∧ h'.get? c = some oc ∧ oc.data = .cell vc ∧ News h₀ L h' ((s₂.heap.objs.size, lst ys) :: news)) ?_ (items.size + 1)
      ⟨h₁, _, 0, [], _, _, rfl, Nat.zero_le _, rfl, rfl, .nil, hst₁, F.keeps old, hns₁, hcell₁, rfl, N₁⟩
    · intro k s' hI
      refine el_E6 hI ?_
      clear hI
      intro h' tk i ys oc vc hI
      refine el_a11 hI ?_
      clear hI
      intro e8 hi e9 hyl hys hst' F' hn' hc' hcd' N'
      subst e8 e9
      have hl' : h'.IsList ax items := ⟨_, (N' _ (List.mem_cons_of_mem _ hm)).1, rfl, k₀, rfl⟩
      by_cases hlt : i < items.size
      · refine W.item i _ _ _ hlt ⟨hst', hl'⟩ fun v h₂ tk₂ hPv hst₂ hk₂ => ?_
        have hk2 : ∀ b o, b ≠ I → h'.get? b = some o → h₂.get? b = some o := fun b o hb e => hk₂ b o (by simpa using hb) e
        have F₂ : Fr h₀ L h₂ m := fr_but F' hk₂ hIL hI₀
        have N₂ : News h₀ L h₂ ((s₂.heap.objs.size, lst ys) :: news) := news_but N' hk₂ fun p hp => by
          rcases List.mem_cons.mp hp with rfl | hp
          · exact Ne.symm hIC.2.1
          · exact off p hp
        refine wpAny_assign_Name (wpAny_storeName_cell (c := c) (v₀ := vc) (by simp [compEnvC, relabel, hkind]) (hx _ _) (by simp [compEnvC]) ⟨oc, hk2 c oc (Ne.symm hIC.2.2) hc', hcd'⟩ fun h₃ hv₃ hs₃ => ?_)
        refine wpAny_tests_nil ?_
        simp only [if_true]
        obtain ⟨oc₃, he₃, hd₃⟩ := hv₃
        obtain ⟨oI, heI, rI⟩ := hst₂.1
        have heI₃ : h₃.get? I = some oI := (hs₃.2 I hIC.2.2).trans heI
        have F₃ : Fr h₀ L h₃ m := F₂.change hs₃ hcL hc₀
        have hn₃ : h₃.Ns H2.objs.size (fun _ => none) := (hn'.at' fun o e => hk2 _ o (Ne.symm hIC.1) e).at' fun o e => (hs₃.2 _ hCc).trans e
        obtain ⟨oC, heC, hoC⟩ := ns_obj hn₃
        have N₃ : News h₀ L h₃ ((I, oI) :: (H2.objs.size, oC) :: (c, oc₃) :: (s₂.heap.objs.size, lst ys) :: news) := fun p hp => by
          rcases List.mem_cons.mp hp with rfl | hp
          · exact ⟨heI₃, Ne.symm hIL, hI₀⟩
          · rcases List.mem_cons.mp hp with rfl | hp
            · exact ⟨heC, hCL, hC₀⟩
            · rcases List.mem_cons.mp hp with rfl | hp
              · exact ⟨he₃, hcL, hc₀⟩
              · have z := N₂ p hp
                refine ⟨(hs₃.2 _ ?_).trans z.1, z.2⟩
                rcases List.mem_cons.mp hp with rfl | hp
                · exact hDc
                · exact (offN p hp).2.2
        refine wpAny_mono (turn i v I oI H2.objs.size oC c oc₃ s₂.heap.objs.size ys h₃ _ _ hPv hd₃ F₃ N₃) (fun y s₄ h₄ => ?_) fun _ _ q => q
        obtain ⟨⟨t', rfl⟩, h₄, tk₄, rfl, F₄, N₄⟩ := h₄
        have zI := (N₄ (I, oI) List.mem_cons_self).1
        have zC := (N₄ (H2.objs.size, oC) (List.mem_cons_of_mem _ List.mem_cons_self)).1
        have zc := (N₄ (c, oc₃) (List.mem_cons_of_mem _ (List.mem_cons_of_mem _ List.mem_cons_self))).1
        have zD := (N₄ (s₂.heap.objs.size, lst ys) (List.mem_cons_of_mem _ (List.mem_cons_of_mem _ (List.mem_cons_of_mem _ List.mem_cons_self)))).1
        refine append_at (hsz := by show ys.toArray.size ≤ sizeLine; rw [List.size_toArray, hyl]; exact Nat.le_trans hi hsz) zD fun h₅ hs₅ hD₅ => ?_
        refine ⟨items.size + 1 - (i + 1), by omega, h₅, tk₄, i + 1, ys ++ [.int (val i) t'], oc₃, _, rfl, hlt, rfl, by rw [List.length_append, List.length_singleton, hyl], ?_, ⟨oI, (hs₅.2 I hIC.2.1).trans zI, rI⟩, F₄.change hs₅ hDL hD₀,
          (hoC.ns zC).sameBut hs₅ (Ne.symm hDC), (hs₅.2 c (Ne.symm hDc)).trans zc, hd₃, fun p hp => ?_⟩
        · rw [List.range_succ, List.map_append]; exact ints_snoc hys
        · rcases List.mem_cons.mp hp with rfl | hp
          · exact ⟨hD₅.trans (congrArg some (lst_snoc ys _)), hDL, hD₀⟩
          · have z := N₄ p (List.mem_cons_of_mem _ (List.mem_cons_of_mem _ (List.mem_cons_of_mem _ (List.mem_cons_of_mem _ hp))))
            exact ⟨(hs₅.2 _ (offN p hp).2.1).trans z.1, z.2⟩
      · obtain rfl : i = items.size := Nat.le_antisymm hi (Nat.not_lt.mp hlt)
        refine W.done _ _ _ ⟨hst', hl'⟩ fun h₂ tk₂ hk₂ => ?_
        have hk2 : ∀ b o, b ≠ I → h'.get? b = some o → h₂.get? b = some o := fun b o hb e => hk₂ b o (by simpa using hb) e
        exact hRR _ _ h₂ tk₂ _ ys hys (fr_but F' hk₂ hIL hI₀) (news_but N' hk₂ fun p hp => by
          rcases List.mem_cons.mp hp with rfl | hp
          · exact Ne.symm hIC.2.1
          · exact off p hp) (by
          have : ∀ {l : List (Addr × Obj)}, (∀ p ∈ l, p.1 ≠ s₂.heap.objs.size) → Off1 s₂.heap.objs.size l := by
            intro l hl
            induction l with
            | nil => trivial
            | cons p r ih => exact ⟨hl p (.head _), ih fun q hq => hl q (.tail _ hq)⟩
          exact this fun p hp => (offN p hp).2.1) (hn'.at' fun o e => hk2 _ o (Ne.symm hIC.1) e) hC₀ hD₀ hCL hDL (Ne.symm hDC) fun p hp => (offN p hp).1
  exact codeAny_compStart_list (loop _ rfl) (W.self 0 _ _ _ ⟨hst₁, ⟨_, (N₁ _ (List.mem_cons_of_mem _ hm)).1, rfl, k₀, rfl⟩⟩ (loop _ rfl))
def SrcC (prog : Program) (w : World) (A : Around) (h₀ : Heap) (L : Addr) (m : Str → Option Value) (env : Env) (elt : Expr) (x : Str) (scope : Scope) (cl : List (Str × Addr)) (Q : Value → Shared → Prop) (xv : Value) (s₁ : Shared) : Prop :=
  ∃ (ax : Addr) (items : Array Value) (k₀ : Nat) (news : List (Addr × Obj)) (val : Nat → Int), xv = .ref ax ∧ A.handled = none ∧ items.size ≤ sizeLine ∧ (ax, ({ cls := .type "list", data := .seq items k₀ } : Obj)) ∈ news ∧
    Fr h₀ L s₁.heap m ∧ News h₀ L s₁.heap news ∧ (∀ g, CellTurn prog w A h₀ L m env elt x scope cl { s₁ with heap := g } items news val) ∧
    (∀ D h tk ys, IntsAre ys ((List.range items.size).map val) → Fr h₀ L h m → News h₀ L h ((D, lst ys) :: news) → Off1 D news → Q (.ref D) { s₁ with heap := h, toks := tk })
theorem ListComp_C {elt iter : Expr} {x : Str} {px : Pos} {scope : Scope} {cl : List (Str × Addr)} {pos : Pos} {Q : Value → Shared → Prop} (F₀ : Fr h₀ L s.heap m)
    (hclos : closureFor scope env = pure cl) (hc : ∀ n, cellsFrom n scope.names cl = (x, n) :: cl) (hp : ∀ h : Heap, pushCells h scope.names = h.push cellObj) (hkind : scope.kind = .function) (hx : ∀ cl' C, (compEnvC scope cl' C env).kindOf x = some .cell)
    (hnames : ∀ y ∈ scope.names, y.2 = .local → scope.names.lookup y.1 = some .local)
    (h : wpAny (model prog w) A (eval iter env) (SrcC prog w A h₀ L m env elt x scope cl Q) E s)
    (hs : ∀ x, foldedSetIterable iter env x = pure x := by intro _; rfl) :
    wpAny (model prog w) A (eval (.ListComp elt [⟨.Name x px, iter, [], 0⟩] scope pos) env) Q E s := by
  rw [eval_ListComp]
  refine wpAny_comprehension_free (use := none) rfl hs hclos hkind hnames (wpAny_mono h (fun xv s₁ h₁ => ?_) fun _ _ e => e)
  refine el_E5 h₁ ?_
  clear h₁
  intro ax items k₀ news val h
  refine el_a8 h ?_
  clear h
  intro e9 hh hsz hm F N turn fin
  subst e9
  have hl : s₁.heap.IsList ax items := ⟨_, (N _ hm).1, rfl, k₀, rfl⟩
  have hlt : ax < s₁.heap.objs.size := Heap.lt_size (N _ hm).1
  refine wpAny_pyIter_list hl ?_
  have up : ∀ b o, s₁.heap.get? b = some o → (s₁.heap.push { cls := .type "list_iterator", data := .fields #[.ref ax, .int 0 0] }).get? b = some o := fun b o e => Heap.get?_push_of_some _ e
  refine block_C (s₂ := { s₁ with heap := _ }) (items := items) (k₀ := k₀) val hh (Nat.ne_of_lt hlt) hsz hc hp hkind hx ⟨_, Heap.get?_push_size _ rfl, rfl, rfl⟩ hm (by show _ < (s₁.heap.push _).objs.size; rw [Heap.size_push]; exact Nat.lt_succ_self _)
    (F.keeps up) (N.grown up) (Nat.ne_of_lt F.ns.lt) (next_is_new F) (fun p hp => Nat.ne_of_lt (Heap.lt_size (N p hp).1)) (turn _) ?_
  intro D C h tk m' ys hys F' N' o1 hn hC₀ hD₀ hCL hDL hCD offC
  refine ⟨m', hn, fun h'' hs'' => fin D h'' tk ys hys (F'.change hs'' hCL hC₀) (fun p hp => ?_) o1⟩
  refine ⟨hs''.extBut _ _ ?_ (N' p hp).1, (N' p hp).2⟩
  rcases List.mem_cons.mp hp with rfl | hp
  · exact Ne.symm hCD
  · exact offC p hp
end
end Mine
end
/-! part V9 -/
section
open PySem PySem.W PyProof.Rows
namespace Mine
theorem can_cls (z : Z2) : ((can z).1 - (can z).2.2, (can z).2.1 - (can z).2.2) = z := by
  unfold can; ext <;> simp only <;> omega
theorem c_numZ (w : World) (mean : ExcName → Option Value) (mg mb : Str → Option Value) (P S : Addr) (z : Z2) (sixths : Int) (k0 : Nat) (u0 u1 u2 t2 : Tok)
    (s0 : 0 ≤ sixths) (s5 : sixths ≤ 5) (hk0 : k0 ≤ 20) (hn : nrm z ≤ bd k0) :
    Contract w mean mg mb 62 2 [.ref P, .int sixths t2, .ref S] (fun h => h.IsList P #[Value.int (can z).1 u0, .int (can z).2.1 u1, .int (can z).2.2 u2] ∧ ShAt h S)
      (fun _ _ v => ∃ t, v = .int (numb sixths.toNat k0 z) t) := by
  have C := c_number w mean mg mb P S (can z).1 (can z).2.1 (can z).2.2 sixths k0 u0 u1 u2 t2 s0 s5 hk0 (by rw [can_cls]; exact hn)
  rw [can_cls] at C
  exact C
theorem c_turnC (w : World) (mean : ExcName → Option Value) (mg mb : Str → Option Value) (P : Addr) (z : Z2) (sixths white : Int) (u0 u1 u2 t2 t3 : Tok)
    (w0 : 0 ≤ white) (hN : nrm z + white < 2 ^ 35) (s0 : 0 ≤ sixths) (s5 : sixths ≤ 5) :
    Contract w mean mg mb 52 4 [.ref P, .int sixths t2, .int white t3] (fun h => h.IsList P [Value.int (can z).1 u0, .int (can z).2.1 u1, .int (can z).2.2 u2].toArray)
      (OutList3 (can (Tn sixths.toNat z)).1 (can (Tn sixths.toNat z)).2.1 (can (Tn sixths.toNat z)).2.2) := by
  have C := c_turnZ w mean mg mb P (can z).1 (can z).2.1 (can z).2.2 sixths white u0 u1 u2 t2 t3 w0 (by rw [can_cls]; exact hN) s0 s5
  rw [can_cls] at C
  exact C
theorem pow_4_16 : (4 : Int) ^ 16 - 1 = 2 ^ 32 - 1 := by decide
theorem small_dg (s : Nat) {num : Int} (h : num.natAbs < 16 ^ 16) : Small s (2 ^ 32 - 1) (dg num.natAbs) := by
  have := small_len s 16 (dg num.natAbs) (dg_lt _) (dg_len 16 _ h)
  rwa [pow_4_16] at this
theorem nrm_dg (s : Nat) {num : Int} (h : num.natAbs < 16 ^ 16) : nrm (hz s (dg num.natAbs)) ≤ 2 ^ 32 - 1 := small_dg s h _ List.prefix_rfl
theorem bd17 : bd 17 = 2 ^ 32 := by decide
theorem numb_num (s : Nat) {num : Int} (h0 : 0 ≤ num) (h : num.natAbs < 16 ^ 16) : numb s 17 (hz s (dg num.natAbs)) = num := by
  rw [numb_hz s _ (dg_lt _) 17 (Nat.le_succ_of_le (dg_len 16 _ h)), vl_dg]; omega
theorem numb_fur (s : Nat) {num : Int} (h : num.natAbs < 16 ^ 16) : numb s 17 (Tn 2 (hz s (dg num.natAbs))) = vl ((dg num.natAbs).map shd) :=
  numb_third s _ (dg_lt _) 17 (Nat.le_succ_of_le (dg_len 16 _ h))
theorem white_bd (x : Int) : 0 ≤ Int.fmod x 8 * 2 ^ 32 ∧ Int.fmod x 8 * 2 ^ 32 ≤ 7 * 2 ^ 32 := by
  rw [Int.fmod_eq_emod_of_nonneg _ (by decide)]; omega
theorem six_bd (x : Int) : 0 ≤ Int.fmod x 6 ∧ Int.fmod x 6 ≤ 5 := by
  rw [Int.fmod_eq_emod_of_nonneg _ (by decide)]; omega
/-- the word has no A ahead -/
theorem head_A {b : Array UInt8} {ds : List Nat} (hb : b.toList = ds.map letter) (hd : ∀ d ∈ ds, d < 16) (hh : ds.head? ≠ some 0) : b[0]? ≠ some 65 := by
  rw [← Array.getElem?_toList, hb]
  cases ds with
  | nil => simp
  | cons d r =>
    simp only [List.map_cons, List.getElem?_cons_zero, ne_eq, Option.some.injEq]
    intro e
    apply hh
    have hl := letter_nat d (hd d (.head _))
    rw [e] at hl
    have : d = 0 := by
      have h65 : ((65 : UInt8).toNat : Int) = 65 := by decide
      rw [h65] at hl; omega
    rw [this]; rfl
theorem cut_A {b : Array UInt8} (hb : b[0]? ≠ some 65) : ¬ KBy.picked b none (some 1) = #[65] := by
  intro h
  rw [KBc.picked_eq] at h
  apply hb
  rw [← Array.getElem?_toList]
  have h2 := congrArg Array.toList h
  simp only [Option.elim] at h2
  cases hl : b.toList with
  | nil => rw [hl] at h2; simp at h2
  | cons a r =>
    rw [hl] at h2
    have hs : b.size = r.length + 1 := by rw [← Array.length_toList, hl]; rfl
    have e1 : clipAt b.size 1 = 1 := by
      have := clipAt_nat b.size 1
      rw [show (((1 : Nat)) : Int) = 1 from rfl] at this
      rw [this]; omega
    rw [e1] at h2
    simp at h2
    simp [h2]
section
variable {prog : Program} {w : World} {A : Around} {E : Value → Shared → Prop} {s : Shared} {value slice : PySem.Expr} {t t1 : Tok} {h₀ : Heap} {L : Addr} {m : PySem.Str → Option Value} {news : List (Addr × Obj)} {b : Array UInt8}
theorem head_slice {Q : Value → Shared → Prop} (hF : Fr h₀ L s.heap m) (hN : News h₀ L s.heap news) (hsz : b.size ≤ 16777216)
    (h : ∀ h' t' k, Fr h₀ L h' m → News h₀ L h' news → Q (.bytes (KBy.picked b none (some 1)) t') { s with heap := h', toks := k })
    (hs : subscripted slice false (.bytes b t) (.ref s.heap.objs.size) = operate [.ref s.heap.objs.size, .bytes b t] (getItem (.bytes b t) (.ref s.heap.objs.size)))
    (ht : ∀ r, letTemporaryGo value (.bytes b t) r = pure ()) :
    wpAny (model prog w) A (subscriptTail value slice (.bytes b t) (.ref s.heap.objs.size)) Q E { s with heap := s.heap.push { cls := .type "slice", data := .fields #[.none, .int 1 t1, .none] } } :=
  KBc.slice_K hF hN rfl .none (.int _ _) (by rw [KBw.ints_length]; exact hsz) (fun h' t' k F' N' _ => h h' t' k F' N') hs ht
/-- a test that is false -/
def CutF (h₀ : Heap) (L : Addr) (m : Str → Option Value) (news : List (Addr × Obj)) (s₀ : Shared) (b : Bool) (s' : Shared) : Prop := b = false ∧ ∃ h tk, s' = { s₀ with heap := h, toks := tk } ∧ Fr h₀ L h m ∧ News h₀ L h news
theorem cutF {Q : Bool → Shared → Prop} {x : Sem Bool} (F : Fr h₀ L s.heap m) (N : News h₀ L s.heap news) (cut : wpAny (model prog w) A x (CutF h₀ L m news s) E s)
    (rest : ∀ h tk, Fr h₀ L h m → News h₀ L h news → Q false { s with heap := h, toks := tk }) : wpAny (model prog w) A x Q E s :=
  wpAny_mono cut (fun f s' h => by obtain ⟨rfl, h, tk, rfl, F, N⟩ := h; exact rest h tk F N) (fun _ _ e => e)
theorem CutF.mk {h : Heap} {all : List (Addr × Obj)} {tk : Nat} (F : Fr h₀ L h m) (N : News h₀ L h all) (sub : ∀ p ∈ news, p ∈ all) : CutF h₀ L m news s false { s with heap := h, toks := tk } := ⟨rfl, h, tk, rfl, F, fun p hp => N p (sub p hp)⟩
end
/-! the loop that tells further -/
def JF (m₀ : PySem.Str → Option Value) (news₀ : List (Addr × Obj)) (ds : List Nat) (i : Nat) (m₁ : PySem.Str → Option Value) (news₁ : List (Addr × Obj)) : Prop :=
  (∃ t, m₁ (Str.ofString "further") = some (.int (vl ((ds.take i).map shd)) t)) ∧ (∀ y, y ≠ Str.ofString "further" → y ≠ Str.ofString "octet" → m₁ y = m₀ y) ∧ news₁ = news₀
theorem shd_val (d : Nat) (x : Int) (h : x = (if (65 + (d : Int)) = 65 then 0 else Int.fmod (65 + (d : Int) - 61) 15 + 1)) : x = ((shd d : Nat) : Int) := by
  unfold shd
  rw [h, Int.fmod_eq_emod_of_nonneg _ (by decide)]
  by_cases hd : d = 0
  · subst hd; simp
  · rw [if_neg (by omega), if_neg hd]; omega
theorem endF {g h : Heap} {L I : Addr} {oI : Obj} {m₀ m₂ : PySem.Str → Option Value} {news : List (Addr × Obj)} {ds : List Nat} {i d tk : Nat} {V x : Int} {t : Tok} {s : Shared} {Q : Flow → Shared → Prop}
    (F : Fr g L h m₂) (N : News g L h ((I, oI) :: news)) (off : AllNe I news) (e : m₂ (Str.ofString "further") = some (.int V t)) (hm : ∀ y, y ≠ Str.ofString "further" → y ≠ Str.ofString "octet" → m₂ y = m₀ y)
    (hd : ds[i]? = some d) (eV : V = 16 * vl ((ds.take i).map shd) + x) (hx : x = ((shd d : Nat) : Int)) :
    ForEnd g L I oI (fun _ => True) (JF m₀ news ds (i + 1)) s Q .next { s with heap := h, toks := tk } := by
  refine ForEnd.next F N news (fun p hp => hp) off.off trivial ⟨⟨t, ?_⟩, hm, rfl⟩
  rw [e, eV, hx, List.take_add_one, hd, Option.toList_some, List.map_append, List.map_cons, List.map_nil, vl_snoc]
theorem ints3 {ys : List Value} {f : Nat → Int} (h : IntsAre ys ((List.range 3).map f)) : ∃ t0 t1 t2, ys = [.int (f 0) t0, .int (f 1) t1, .int (f 2) t2] := by
  have e : (List.range 3).map f = [f 0, f 1, f 2] := rfl
  rw [e] at h
  cases h with
  | cons _ t h =>
    cases h with
    | cons _ u h =>
      cases h with
      | cons _ v h => cases h; exact ⟨_, _, _, rfl⟩
def bs (i : Nat) : Int := ([16, 64, 256] : List Int).getD i 0
theorem bs_of {t0 t1 t2 : Tok} {i : Nat} {v : Value} (h : (#[Value.int 16 t0, .int 64 t1, .int 256 t2] : Array Value)[i]? = some v) : ∃ t, v = .int (bs i) t ∧ i < 3 ∧ (bs i = 16 ∨ bs i = 64 ∨ bs i = 256) := by
  match i, h with
  | 0, h => simp at h; exact ⟨t0, h.symm, by decide, .inl rfl⟩
  | 1, h => simp at h; exact ⟨t1, h.symm, by decide, .inr (.inl rfl)⟩
  | 2, h => simp at h; exact ⟨t2, h.symm, by decide, .inr (.inr rfl)⟩
  | n + 3, h => simp at h
theorem sum_bd (f : Nat → Int) (B : Nat) : ∀ k : Nat, (∀ i, 0 ≤ f i ∧ f i ≤ ((B : Int) - 1)) → 0 ≤ ((List.range k).map (fun i => f i * (B : Int) ^ i)).sum ∧ ((List.range k).map (fun i => f i * (B : Int) ^ i)).sum ≤ (B : Int) ^ k - 1
  | 0, _ => by simp
  | k + 1, h => by
    obtain ⟨h1, h2⟩ := sum_bd f B k h
    have h3 := h k
    have hB : (0 : Int) ≤ (B : Int) ^ k := Int.pow_nonneg (by omega)
    have h4 : 0 ≤ f k * (B : Int) ^ k := Int.mul_nonneg h3.1 hB
    have h5 : f k * (B : Int) ^ k ≤ ((B : Int) - 1) * (B : Int) ^ k := Int.mul_le_mul_of_nonneg_right h3.2 hB
    rw [List.range_succ, List.map_append, List.sum_append, List.map_cons, List.map_nil, List.sum_cons, List.sum_nil, Int.pow_succ]
    rw [Int.sub_mul, Int.one_mul] at h5
    rw [Int.mul_comm ((B : Int) ^ k) (B : Int)]
    omega
theorem col_bd (ns : List Int) (n : Nat) (b : Int) (hn : n ≤ 16) : 0 ≤ ((List.range n).map (fun j => Int.fmod (Int.fdiv (ns.getD j 0) b) 4 * 4 ^ j)).sum ∧ ((List.range n).map (fun j => Int.fmod (Int.fdiv (ns.getD j 0) b) 4 * 4 ^ j)).sum ≤ 2 ^ 32 - 1 := by
  have := sum_bd (fun j => Int.fmod (Int.fdiv (ns.getD j 0) b) 4) 4 n (fun i => by rw [Int.fmod_eq_emod_of_nonneg _ (by decide)]; omega)
  have h2 : ((4 : Nat) : Int) ^ n ≤ 4 ^ 16 := by
    have : (4 : Nat) ^ n ≤ 4 ^ 16 := Nat.pow_le_pow_right (by decide) hn
    exact_mod_cast this
  obtain ⟨x, y⟩ := this
  refine ⟨x, ?_⟩
  have y' : ((List.range n).map (fun j => Int.fmod (Int.fdiv (ns.getD j 0) b) 4 * 4 ^ j)).sum ≤ ((4 : Nat) : Int) ^ n - 1 := y
  have := pow_4_16
  omega
end Mine
end
/-! part W1 -/
section
open PySem PySem.W PyProof.Rows
namespace Mine
def Mid (h₀ : Heap) (L : Addr) (m : Str → Option Value) (s₀ : Shared) (f : Flow) (s' : Shared) : Prop :=
  f = .next ∧ ∃ D vs ns n od oc vc h tk, s' = { s₀ with heap := h, toks := tk } ∧ Fr h₀ L h m ∧ News h₀ L h [(D, ({ cls := .type "list", data := .seq vs n } : Obj)), (L + 1 + 1, oc), (L + 1, od)] ∧ IntsAre vs.toList ns ∧ ns ≠ [] ∧ ns.length ≤ 16 ∧
    cellOf od (some (.ref D)) ∧ cellOf oc vc ∧ @Ne Nat D (L + 1 + 1)
theorem cutMid {prog : Program} {w : World} {A : Around} {E : Value → Shared → Prop} {s : Shared} {Q : Flow → Shared → Prop} {h₀ : Heap} {L : Addr} {m : Str → Option Value} {x : Sem Flow} (F : Fr h₀ L s.heap m)
    (cut : wpAny (model prog w) A x (Mid h₀ L m s) E s)
    (rest : ∀ D vs ns n od oc vc h tk, Fr h₀ L h m → News h₀ L h [(D, ({ cls := .type "list", data := .seq vs n } : Obj)), (L + 1 + 1, oc), (L + 1, od)] → IntsAre vs.toList ns → ns ≠ [] → ns.length ≤ 16 →
      cellOf od (some (.ref D)) → cellOf oc vc → @Ne Nat D (L + 1 + 1) → Q .next { s with heap := h, toks := tk }) : wpAny (model prog w) A x Q E s :=
  wpAny_mono cut (fun f s' x => by obtain ⟨rfl, D, vs, ns, n, od, oc, vc, h, tk, rfl, F, N, hI, h1, h2, h3, h4, h5⟩ := x; exact rest D vs ns n od oc vc h tk F N hI h1 h2 h3 h4 h5) (fun _ _ e => e)
theorem midOf {h₀ h : Heap} {L D D0 : Addr} {m : Str → Option Value} {s₀ : Shared} {tk : Nat} {vs : Array Value} {ns : List Int} {n : Nat} {o0 od oc : Obj} {vc : Option Value} (F : Fr h₀ L h m) (N : News h₀ L h [(D, ({ cls := .type "list", data := .seq vs n } : Obj)), (D0, o0), (L + 1 + 1, oc), (L + 1, od)])
    (hI : IntsAre vs.toList ns) (hne : ns ≠ []) (hlen : ns.length ≤ 16) (dd : cellOf od (some (.ref D))) (dc : cellOf oc vc) (hD : @Ne Nat D (L + 1 + 1)) : Mid h₀ L m s₀ .next { s₀ with heap := h, toks := tk } := by
  exact ⟨rfl, D, vs, ns, n, od, oc, vc, h, tk, rfl, F, fun p hp => N p ((subC (.head _) (subC (.tail _ (.tail _ (.head _))) (subC (.tail _ (.tail _ (.tail _ (.head _)))) subN))) p hp), hI, hne, hlen, dd, dc, hD⟩
/-- the shades in the ledger -/
def ShL (its : Array Value) (rws : List (Addr × Obj)) : Prop := its.size = 16 ∧ ∀ q, q < 16 → ∃ a row n, its[q]? = some (.ref a) ∧ (a, ({ cls := .type "list", data := .seq row n } : Obj)) ∈ rws ∧ Three (shT q) row
theorem shL_of {h h' : Heap} {its : Array Value} : ∀ k : Nat, (∀ q, q < k → ∃ a row n, its[q]? = some (.ref a) ∧ h.get? a = none ∧ h'.get? a = some ({ cls := .type "list", data := .seq row n } : Obj) ∧ Three (shT q) row) →
    ∃ rws : List (Addr × Obj), (∀ p ∈ rws, h.get? p.1 = none ∧ h'.get? p.1 = some p.2) ∧ ∀ q, q < k → ∃ a row n, its[q]? = some (.ref a) ∧ (a, ({ cls := .type "list", data := .seq row n } : Obj)) ∈ rws ∧ Three (shT q) row
  | 0, _ => ⟨[], fun _ h => (nomatch h), fun q hq => absurd hq (Nat.not_lt_zero q)⟩
  | k + 1, H => by
    obtain ⟨rws, h1, h2⟩ := shL_of k fun q hq => H q (by omega)
    obtain ⟨a, row, n, e1, e2, e3, e4⟩ := H k (by omega)
    refine ⟨(a, { cls := .type "list", data := .seq row n }) :: rws, ?_, ?_⟩
    · intro p hp
      rcases List.mem_cons.mp hp with rfl | hp
      · exact ⟨e2, e3⟩
      · exact h1 p hp
    · intro q hq
      by_cases hk : q = k
      · subst hk; exact ⟨a, row, n, e1, .head _, e4⟩
      · obtain ⟨a', row', n', f1, f2, f3⟩ := h2 q (by omega)
        exact ⟨a', row', n', f1, .tail _ f2, f3⟩
theorem shL_news {h₀ h h' : Heap} {L D : Addr} {m : Str → Option Value} {news : List (Addr × Obj)} {its : Array Value} {n : Nat} (F : Fr h₀ L h m) (N0 : News h₀ L h news) (N : News h₀ L h' news) (hD : h.get? D = none) (hD' : h'.get? D = some (W.listOf its n)) (hsz : its.size = 16)
    (H : ∀ q, q < 16 → ∃ a row n, its[q]? = some (.ref a) ∧ h.get? a = none ∧ h'.get? a = some ({ cls := .type "list", data := .seq row n } : Obj) ∧ Three (shT q) row) :
    ∃ rws, ShL its rws ∧ News h₀ L h' ((D, W.listOf its n) :: news ++ rws) ∧ (∀ p ∈ rws, ∀ q ∈ news, p.1 ≠ q.1) := by
  obtain ⟨rws, h1, h2⟩ := shL_of 16 H
  refine ⟨rws, ⟨hsz, h2⟩, fun p hp => ?_, fun p hp q hq e => ?_⟩
  · rcases List.mem_append.mp hp with hp | hp
    · exact newsMore F N hD hD' p hp
    · obtain ⟨a, b⟩ := h1 p hp
      exact (newsMore F N a b) _ (.head _)
  · have := (N0 q hq).1
    rw [← e, (h1 p hp).1] at this; cases this
theorem shAt_news {h₀ h : Heap} {L S : Addr} {its : Array Value} {n : Nat} {rws news : List (Addr × Obj)} (x : ShL its rws) (N : News h₀ L h news) (hm : (S, W.listOf its n) ∈ news) (sub : ∀ p ∈ rws, p ∈ news) : ShAt h S := by
  refine ⟨its, n, (N _ hm).1, x.1, fun q hq => ?_⟩
  obtain ⟨a, row, n', e, hm, h3⟩ := x.2 q hq
  exact ⟨a, row, n', e, (N _ (sub _ hm)).1, h3⟩
theorem take_ne {w : List Int} (h : decide (w = []) = false) : w.take 16 ≠ [] := by
  cases w with
  | nil => simp at h
  | cons a l => simp
def IntSet (h₀ : Heap) (L : Addr) (m : Str → Option Value) (news : List (Addr × Obj)) (x : Str) (V : Int) (s₀ : Shared) (f : Flow) (s' : Shared) : Prop :=
  f = .next ∧ ∃ t h tk, s' = { s₀ with heap := h, toks := tk } ∧ Fr h₀ L h (fun y => if y = x then some (.int V t) else m y) ∧ News h₀ L h news
theorem cutInt {prog : Program} {w : World} {A : Around} {E : Value → Shared → Prop} {s : Shared} {Q : Flow → Shared → Prop} {h₀ : Heap} {L : Addr} {m : Str → Option Value} {news : List (Addr × Obj)} {x : Sem Flow} (F : Fr h₀ L s.heap m) (N : News h₀ L s.heap news) (n : Str) (V : Int)
    (cut : wpAny (model prog w) A x (IntSet h₀ L m news n V s) E s) (rest : ∀ t h tk, Fr h₀ L h (fun y => if y = n then some (.int V t) else m y) → News h₀ L h news → Q .next { s with heap := h, toks := tk }) : wpAny (model prog w) A x Q E s :=
  wpAny_mono cut (fun f s' h => by obtain ⟨rfl, t, h, tk, rfl, F, N⟩ := h; exact rest t h tk F N) (fun _ _ e => e)
theorem IntSet.mk {h₀ h : Heap} {L : Addr} {m : Str → Option Value} {news all : List (Addr × Obj)} {x : Str} {V V' : Int} {t : Tok} {s₀ : Shared} {tk : Nat} (F : Fr h₀ L h (fun y => if y = x then some (.int V' t) else m y)) (N : News h₀ L h all) (sub : ∀ p ∈ news, p ∈ all) (e : V' = V) :
    IntSet h₀ L m news x V s₀ .next { s₀ with heap := h, toks := tk } := by subst e; exact ⟨rfl, t, h, tk, rfl, F, fun p hp => N p (sub p hp)⟩
def BytSet (h₀ : Heap) (L : Addr) (m : Str → Option Value) (news : List (Addr × Obj)) (x : Str) (V : List UInt8) (s₀ : Shared) (f : Flow) (s' : Shared) : Prop :=
  f = .next ∧ ∃ b t h tk, s' = { s₀ with heap := h, toks := tk } ∧ b.toList = V ∧ Fr h₀ L h (fun y => if y = x then some (.bytes b t) else m y) ∧ News h₀ L h news
theorem cutByt {prog : Program} {w : World} {A : Around} {E : Value → Shared → Prop} {s : Shared} {Q : Flow → Shared → Prop} {h₀ : Heap} {L : Addr} {m : Str → Option Value} {news : List (Addr × Obj)} {x : Sem Flow} (F : Fr h₀ L s.heap m) (N : News h₀ L s.heap news) (n : Str) (V : List UInt8)
    (cut : wpAny (model prog w) A x (BytSet h₀ L m news n V s) E s) (rest : ∀ b t h tk, b.toList = V → Fr h₀ L h (fun y => if y = n then some (.bytes b t) else m y) → News h₀ L h news → Q .next { s with heap := h, toks := tk }) : wpAny (model prog w) A x Q E s :=
  wpAny_mono cut (fun f s' h => by obtain ⟨rfl, b, t, h, tk, rfl, e, F, N⟩ := h; exact rest b t h tk e F N) (fun _ _ e => e)
theorem BytSet.mk {h₀ h : Heap} {L : Addr} {m : Str → Option Value} {news all : List (Addr × Obj)} {x : Str} {V : List UInt8} {b : Array UInt8} {t : Tok} {s₀ : Shared} {tk : Nat} (F : Fr h₀ L h (fun y => if y = x then some (.bytes b t) else m y)) (N : News h₀ L h all) (sub : ∀ p ∈ news, p ∈ all) (e : b.toList = V) :
    BytSet h₀ L m news x V s₀ .next { s₀ with heap := h, toks := tk } := ⟨rfl, b, t, h, tk, rfl, e, F, fun p hp => N p (sub p hp)⟩
theorem ints_at {vs : List Value} {ns : List Int} (hI : IntsAre vs ns) : ∀ {i : Nat} {xv : Value}, vs[i]? = some xv → ∃ t, xv = .int (ns.getD i 0) t ∧ i < ns.length := by
  induction hI with
  | nil => intro i xv h; simp at h
  | cons n t _ ih =>
    intro i xv h
    cases i with
    | zero => simp at h; exact ⟨t, by simp [← h], by simp⟩
    | succ i =>
      simp at h
      obtain ⟨t', e, hl⟩ := ih h
      exact ⟨t', by simpa using e, by simpa using hl⟩
theorem first_of {vs : Array Value} {ns : List Int} (hI : IntsAre vs.toList ns) (hne : ns ≠ []) : ∃ n0 t0, vs[Int.toNat 0]? = some (.int n0 t0) := by
  rw [← Array.getElem?_toList]
  generalize vs.toList = l at hI
  cases hI with
  | nil => exact absurd rfl hne
  | cons n t _ => exact ⟨n, t, rfl⟩
theorem num_bd (ns : List Int) (vs : Array Value) (hI : IntsAre vs.toList ns) (hlen : ns.length ≤ 16) : 0 ≤ ((List.range vs.size).map (fun i => Int.fmod (ns.getD i 0) 16 * 16 ^ i)).sum ∧ (((List.range vs.size).map (fun i => Int.fmod (ns.getD i 0) 16 * 16 ^ i)).sum).natAbs < 16 ^ 16 := by
  have hs : vs.size ≤ 16 := by rw [← Array.length_toList, hI.length]; exact hlen
  have := sum_bd (fun i => Int.fmod (ns.getD i 0) 16) 16 vs.size (fun i => by rw [Int.fmod_eq_emod_of_nonneg _ (by decide)]; omega)
  have h2 : ((16 : Nat) : Int) ^ vs.size ≤ 16 ^ 16 := by
    have : (16 : Nat) ^ vs.size ≤ 16 ^ 16 := Nat.pow_le_pow_right (by decide) hs
    exact_mod_cast this
  obtain ⟨a, b⟩ := this
  refine ⟨a, ?_⟩
  have : (((List.range vs.size).map (fun i => Int.fmod (ns.getD i 0) 16 * 16 ^ i)).sum) ≤ 16 ^ 16 - 1 := by
    have b' : (((List.range vs.size).map (fun i => Int.fmod (ns.getD i 0) 16 * 16 ^ i)).sum) ≤ ((16 : Nat) : Int) ^ vs.size - 1 := b
    omega
  have a' : 0 ≤ ((List.range vs.size).map (fun i => Int.fmod (ns.getD i 0) 16 * 16 ^ i)).sum := a
  generalize ((List.range vs.size).map (fun i => Int.fmod (ns.getD i 0) 16 * 16 ^ i)).sum = q at *
  omega
section
variable {w : World} {mean : ExcName → Option Value} {mg mb : Str → Option Value} {f : Addr} {lv : Nat} {vs : List Value} {Pre : Heap → Prop}
    {dp un : Nat} {gd : Option (List Code)} {cn : Str} {cs : Scope} {a : Addr} {ccd : Value} {cl : List (Str × Addr)} {outer : List Env} {A₀ : Around} {base h₀ : Heap} {L : Addr} {m : Str → Option Value} {s : Shared} {Q E : Value → Shared → Prop} {news : List (Addr × Obj)}
/-- a def that gives bytes -/
theorem useB {P : Array UInt8 → Prop} (C : Contract w mean mg mb f lv vs Pre (fun _ _ v => ∃ b t, v = .bytes b t ∧ P b)) (pre : Pre s.heap)
    (ret : ∀ (b : Array UInt8) (t : Tok) (h' : Heap) (tk' : Nat), P b → Fr h₀ L h' m → News h₀ L h' news → Q (.bytes b t) { s with heap := h', toks := tk' })
    (B : Below A₀ base outer h₀ := by k_asm) (F : Fr h₀ L s.heap m := by k_asm) (X : Frag.In (hd.heap_39 w.params) h₀ := by k_asm) (N : News h₀ L s.heap news := by k_asm) (T : Top hd.view_39 (looseW hd.view_39 [Str.ofString "ONE_THIRD", Str.ofString "ONE_SIXTH", Str.ofString "TWO_THIRD"]) mean mg mb h₀ := by k_asm)
    (hk : cs.kind = .function := by first | exact rfl | assumption) (hdp : dp + lv < recursionLimit := by ktr_room) (hu : un + 8 * lv < cLine := by ktr_units) :
    wpAny (model PySem.Challenge.rw_pg0052_01.row.prog w) (ktrTop dp un gd cn cs L a ccd cl outer) (call (.ref f) vs) Q E s :=
  use C B F X N T hk hdp hu pre fun _ h' tk' o _ _ F' N' _ => let ⟨b, t, e, p⟩ := o; e ▸ ret b t h' tk' p F' N'
/-- _law_shades -/
theorem useS (C : Contract w mean mg mb f lv vs Pre OutShades) (pre : Pre s.heap)
    (ret : ∀ (D : Addr) (its : Array Value) (n : Nat) (rws : List (Addr × Obj)) (h' : Heap) (tk' : Nat), ShL its rws → News h₀ L h' ((D, W.listOf its n) :: news ++ rws) → AllNe D news → (∀ p ∈ rws, ∀ q ∈ news, p.1 ≠ q.1) → Fr h₀ L h' m → Q (.ref D) { s with heap := h', toks := tk' })
    (B : Below A₀ base outer h₀ := by k_asm) (F : Fr h₀ L s.heap m := by k_asm) (X : Frag.In (hd.heap_39 w.params) h₀ := by k_asm) (N : News h₀ L s.heap news := by k_asm) (T : Top hd.view_39 (looseW hd.view_39 [Str.ofString "ONE_THIRD", Str.ofString "ONE_SIXTH", Str.ofString "TWO_THIRD"]) mean mg mb h₀ := by k_asm)
    (hk : cs.kind = .function := by first | exact rfl | assumption) (hdp : dp + lv < recursionLimit := by ktr_room) (hu : un + 8 * lv < cLine := by ktr_units) :
    wpAny (model PySem.Challenge.rw_pg0052_01.row.prog w) (ktrTop dp un gd cn cs L a ccd cl outer) (call (.ref f) vs) Q E s :=
  use C B F X N T hk hdp hu pre fun _ h' tk' o Fo No F' N' _ => Exists.elim o fun D o => el_E2 o fun its n o => el_a5 o fun e hD hN hsz rows => Exists.elim (shL_news Fo No N' hD hN hsz rows) fun rws x => el_a3 x fun shl N2 off => e ▸ ret D its n rws h' tk' shl N2 (allNe_of (newsNe No hD)) off F'
end
theorem JF.el {m₀ : PySem.Str → Option Value} {news₀ : List (Addr × Obj)} {ds : List Nat} {i : Nat} {m₁ : PySem.Str → Option Value} {news₁ : List (Addr × Obj)} {C : Prop} (x : JF m₀ news₀ ds i m₁ news₁)
    (k : ∀ t, m₁ (Str.ofString "further") = some (.int (vl ((ds.take i).map shd)) t) → (∀ y, y ≠ Str.ofString "further" → y ≠ Str.ofString "octet" → m₁ y = m₀ y) → news₁ = news₀ → C) : C :=
  let ⟨⟨t, h⟩, h1, h2⟩ := x; k t h h1 h2
theorem sb_sb (a b m : Int) : a - m - (b - m) = a - b := by omega
theorem nrm_box {a b c B : Int} (h1 : 0 ≤ a ∧ a ≤ B) (h2 : 0 ≤ b ∧ b ≤ B) (h3 : 0 ≤ c ∧ c ≤ B) : nrm (a - c, b - c) ≤ B := by
  rw [nrm_sh]
  have := Int.sub_le_sub (max3_le h1.2 h2.2 h3.2) (le_min3 h1.1 h2.1 h3.1)
  rwa [Int.sub_zero] at this
local macro_rules | `(tactic| walk_at "subscriptTail Name Constant ref int") => `(tactic| (k_here; k_dflt (refine item_at (News.isList (by k_asm) (by k_mem)) (by decide) (by decide) (by with_reducible assumption) ?_)))
local macro_rules | `(tactic| walk_at "subscriptTail Name Slice bytes ref") => `(tactic| (k_here; (with_reducible show wpAny _ _ (subscriptTail _ (Expr.Slice none _ none _) (Value.bytes _ _) (Value.ref _)) _ _ _); k_dflt ((refine' head_slice (s := ⟨_, _, _, _, _⟩) ?k1 ?k2 ?k3 ?_ ?k4 ?k5); (case k1 => k_asm); (case k2 => k_asm); (case k3 => assumption); (case k4 => with_unfolding_all rfl); (case k5 => (intro _; with_unfolding_all rfl))); intro h' t' k' F' N'))
local macro_rules | `(tactic| walk_at "exec Assign cons ListComp") => `(tactic| (k_here; k_dflt (refine LCg.Assign_ListComp_U (F₀ := by k_asm) (by rfl) (by with_unfolding_all rfl) (by with_unfolding_all rfl) (by decide) (by rfl) (by decide) (by rfl) (by rfl) (by rfl) ?_)))
local macro_rules | `(tactic| walk_at "CompRest") => `(tactic| (with_unfolding_all ((refine LCg.CompRest.succ ?_; intro v' I' oI' C' oC' D' m' h' tk' E' hv' hC' hx' F' N' off' ne'; lcg_open hv'))))
local macro_rules | `(tactic| ktr_step) => `(tactic| repeat' (first | ((fail_if_success (with_reducible first | show Mid .. | show BytSet .. | show CutF .. | show ForEnd .. | show wpAny _ _ (pyIter _) (fun it s₂ => codeAny _ _ (Code.forLoop _ it _ [] _) _ s₂) _ _ | show SrcC .. | show CellEnd .. | show LCg.FinA .. | show IntSet .. | show wpAny _ _ (call (Value.ref _) _) .. | show wpAny _ _ (call (Value.type _) [Value.ref _]) (SrcE _ _ _ _ _ _ _ _ _ _ _ _ _) _ _)); ktr_rel)))
local macro_rules | `(tactic| walk_at "execs cons Assign cons") => `(tactic| (k_here; (with_reducible refine wpAny_execs_cons ?_); (try dsimp only)))
local macro_rules | `(tactic| walk_at "execs cons If cons") => `(tactic| (k_here; (with_reducible refine wpAny_execs_cons ?_); (try dsimp only)))
local macro_rules | `(tactic| walk_at "execs cons For cons") => `(tactic| (k_here; (with_reducible refine wpAny_execs_cons ?_); (try dsimp only)))
local macro_rules | `(tactic| walk_at "execs cons Return") => `(tactic| (k_here; (with_reducible refine wpAny_execs_cons ?_); (try dsimp only)))
local macro_rules | `(tactic| walk_at "eval ListComp BinOp cons") => `(tactic| (k_here; (with_reducible show wpAny _ _ (eval (Expr.ListComp _ [⟨Expr.Tuple _ _ _, _, [], 0⟩] _ _) _) _ _ _); k_dflt (refine ListComp_E (F₀ := by k_asm) (by rfl) (by decide) (by rfl) (by decide) (by rfl) (by rfl) (by decide) ?_)))
set_option maxRecDepth 100000 in
set_option maxHeartbeats 8000000 in
theorem law_holds : PySem.Challenge.rw_pg0052_01.Holds := Mine.hd (by
  k_go0
  all_goals try k_fold
  · walk1
    refine cutMid (by k_asm) ?cut ?rest
    case cut =>
      ktr_step
      all_goals (with_reducible rename News _ _ _ _ => N2)
      · exact midOf (by k_asm) N2 (.cons _ _ (.cons _ _ (.cons _ _ (.cons _ _ .nil)))) (by simp) (by simp) (by assumption) (by assumption) (by k_ne)
      · refine midOf (by k_asm) N2 (by assumption) ?_ ?_ (by assumption) (by assumption) (by k_ne)
        · exact take_ne (by assumption)
        · rw [List.length_take]; omega
    case rest =>
      intro D vs ns n od oc vc h tk F' N' hI hne hlen dd dc hD
      dsimp only
      (with_reducible refine wpAny_execs_cons ?_); (try dsimp only)
      refine cutInt (by k_asm) (by k_asm) (Str.ofString "sixths") (Int.fmod ns.sum 6) ?_ ?_
      · ktr_step
        exact IntSet.mk (by k_asm) (by k_asm) (fun _ h => h) rfl
      clear F' N'
      intro ts h tk F' N'
      dsimp only
      (with_reducible refine wpAny_execs_cons ?_); (try dsimp only)
      refine cutInt (by k_asm) (by k_asm) (Str.ofString "white") (Int.fmod (Int.fdiv ns.sum 6) 8 * 2 ^ 32) ?_ ?_
      · ktr_step
        exact IntSet.mk (by k_asm) (by k_asm) (fun _ h => h) rfl
      clear F' N'
      intro tw h tk F' N'
      dsimp only
      generalize hWv : Int.fmod (Int.fdiv ns.sum 6) 8 * 2 ^ 32 = white at F'
      generalize hSv : Int.fmod ns.sum 6 = sixths at F'
      ktr_step
      refine useS (c_shades _ _ _ _) trivial ?_
      clear F' N'
      intro D9 its9 n9 rws h9 tk9 shl N9 ne9 off9 F9
      dsimp only [AllNe] at ne9
      have hD92 := ne9.2.1
      have hr2 := fun p hp => off9 p hp _ (.tail _ (.head _))
      clear off9 ne9
      (try simp only [List.cons_append, List.nil_append] at N9)
      have hvs : vs.size ≤ sizeLine := by
        have := hI.length
        rw [← Array.length_toList, this]; exact Nat.le_trans hlen (Nat.le_of_ble_eq_true rfl)
      ktr_rel
      ktr_rel
      refine cutInt (by k_asm) (by k_asm) (Str.ofString "number") (((List.range vs.size).map (fun i => Int.fmod (ns.getD i 0) 16 * 16 ^ i)).sum) ?_ ?_
      · ktr_step
        refine enum_src (fun i => Int.fmod (ns.getD i 0) 16 * 16 ^ i) rfl (by k_asm) (by k_asm) (News.isList (by k_asm) (by k_mem)) hvs ?eturn ?efin
        case eturn =>
          intro g i t xv C oC D' ys m₂ h tk E' hx hC h1 h2 F' N'
          obtain ⟨t', rfl, hi⟩ := ints_at hI (i := i) (xv := xv) (by rw [Array.getElem?_toList]; exact hx)
          ktr_step
        case efin =>
          intro g D' h tk ys hys F' N' o1
          ktr_step
          exact IntSet.mk (by k_asm) (by k_asm) (fun _ h => .tail _ h) rfl
      intro tn h tk F' N'
      dsimp only
      have hnum := num_bd ns vs hI hlen
      generalize hNv : ((List.range vs.size).map (fun i => Int.fmod (ns.getD i 0) 16 * 16 ^ i)).sum = num at F' hnum
      obtain ⟨n0, t0, hv0⟩ := first_of hI hne
      have hap : num.natAbs < 16 ^ 100 := Nat.lt_of_lt_of_le hnum.2 (Nat.pow_le_pow_right (by decide) (by decide))
      have hap2 : (-num).natAbs < 16 ^ 100 := by rw [Int.natAbs_neg]; exact hap
      (with_reducible refine wpAny_execs_cons ?_); (try dsimp only)
      refine cutByt (by k_asm) (by k_asm) (Str.ofString "word") ((dg num.natAbs).map letter) ?_ ?_
      · ktr_step
        all_goals (refine useB (c_ap _ _ _ _ _ _ (by first | exact hap2 | exact hap)) trivial ?_; intro b9 t9 h9 tk9 hb9 F9 N9)
        all_goals ktr_step
        all_goals exact BytSet.mk (by k_asm) (by k_asm) (fun _ h => h) (by first | exact hb9 | (rw [Int.natAbs_neg] at hb9; exact hb9))
      clear F' N'
      intro wd tw2 h tk hwd F' N'
      dsimp only
      obtain ⟨w0, w7⟩ := hWv ▸ white_bd (Int.fdiv ns.sum 6)
      obtain ⟨s0, s5⟩ := hSv ▸ six_bd ns.sum
      have hsm := small_dg sixths.toNat hnum.2
      have hnz := nrm_dg sixths.toNat hnum.2
      ktr_step
      refine useL (c_painted _ _ _ _ D9 wd (dg num.natAbs) sixths white _ _ _ hwd (dg_lt _) w0 w7 s0 s5 hsm) (by exact shAt_news shl (by k_asm) (.head _) (fun p hp => .tail _ (.tail _ (.tail _ (.tail _ hp))))) ?_
      clear F' N'
      intro Dp q0 q1 q2 np h9 tk9 ne9 F9 N9
      dsimp only [AllNe] at ne9
      have hDp2 := ne9.2.2.1
      clear ne9
      dsimp only
      generalize hZ : hz sixths.toNat (dg num.natAbs) = z at *
      ktr_rel
      ktr_rel
      have hA := cut_A (head_A hwd (dg_lt _) (dg_head _))
      have hwsz : wd.size ≤ 16777216 := by
        have h1 : wd.size = (dg num.natAbs).length := by rw [← Array.length_toList, hwd, List.length_map]
        rw [h1]; exact Nat.le_trans (dg_len 16 _ hnum.2) (by decide)
      have hnb : numb sixths.toNat 17 z = num := by rw [← hZ]; exact numb_num _ hnum.1 hnum.2
      walk1
      refine cutF (by k_asm) (by k_asm) ?_ ?_
      · ktr_step
        · exact absurd (Array.ext' (eq_of_beq (by assumption))) hA
        refine useV (c_numZ _ _ _ _ Dp D9 z sixths 17 _ _ _ _ s0 s5 (by decide) (by rw [bd17]; omega)) (by exact ⟨News.isList (by k_asm) (.head _), shAt_news shl (by k_asm) (.tail _ (.head _)) (fun p hp => .tail _ (.tail _ (.tail _ (.tail _ (.tail _ hp)))))⟩) ?_
        intro t9 h9 tk9 F9 N9
        ktr_step
        · exact absurd hnb (by assumption)
        · exact CutF.mk (by k_asm) (by k_asm) (fun _ h => h)
      intro h tk F' N'
      dsimp only
      ktr_step
      refine for_bytes (JF _ _ (dg num.natAbs)) rfl (by k_asm) (by k_asm) ⟨⟨_, rfl⟩, fun _ _ _ => rfl, rfl⟩ ?turn ?done (by intro _ _; rfl)
      case turn =>
        intro i c t I m₁ news₁ oI h tk E' hi hc hJ off F' N'
        refine hJ.el ?_; clear hJ
        intro tf hf hm e9
        subst e9
        obtain ⟨d, hd1, rfl⟩ := get_letter hwd hc
        rw [letter_nat d (dg_lt _ d (List.mem_of_getElem? hd1))]
        replace F' := Fr_see F' hf
        ktr_step
        · exact endF (by k_asm) (by k_asm) off rfl (fun y h1 h2 => (if_neg h1).trans ((if_neg h2).trans ((if_neg h1).trans (hm y h1 h2)))) hd1 rfl (shd_val d _ (by rw [if_pos (by assumption)]))
        · exact endF (by k_asm) (by k_asm) off rfl (fun y h1 h2 => (if_neg h1).trans ((if_neg h2).trans ((if_neg h1).trans (hm y h1 h2)))) hd1 rfl (shd_val d _ (by rw [if_neg (by assumption)]))
      case done =>
        intro m₁ news₁ h tk hJ F' N'
        refine hJ.el ?_; clear hJ
        intro tf hf hm e9
        subst e9
        replace F' := Fr_see F' ((hm (Str.ofString "white") (by decide) (by decide)).trans rfl)
        replace F' := Fr_see F' ((if_neg (by decide)).trans ((hm (Str.ofString "sixths") (by decide) (by decide)).trans rfl))
        replace F' := Fr_see F' ((if_neg (by decide)).trans ((if_neg (by decide)).trans ((hm (Str.ofString "shades") (by decide) (by decide)).trans rfl)))
        replace F' := Fr_see F' ((if_neg (by decide)).trans ((if_neg (by decide)).trans ((if_neg (by decide)).trans ((hm (Str.ofString "painted") (by decide) (by decide)).trans rfl))))
        replace F' := Fr_see F' ((if_neg (by decide)).trans ((if_neg (by decide)).trans ((if_neg (by decide)).trans ((if_neg (by decide)).trans hf))))
        clear hm hf
        rw [take_all hwd] at F'
        have hfur : numb sixths.toNat 17 (Tn 2 z) = vl ((dg num.natAbs).map shd) := by rw [← hZ]; exact numb_fur _ hnum.2
        ktr_rel
        walk1
        refine cutF (by k_asm) (by k_asm) ?_ ?_
        · ktr_step
          refine useL (c_turnC _ _ _ _ Dp z 2 white _ _ _ _ _ w0 (by omega) (by decide) (by decide)) (by exact News.isList (by k_asm) (.head _)) ?_
          intro Dt r0 r1 r2 nt h9 tk9 _ F9 N9
          rw [show (2 : Int).toNat = 2 from rfl] at N9
          ktr_step
          refine useV (c_numZ _ _ _ _ Dt D9 (Tn 2 z) sixths 17 _ _ _ _ s0 s5 (by decide) (by rw [bd17, nrm_Tn]; omega)) (by exact ⟨News.isList (by k_asm) (.head _), shAt_news shl (by k_asm) (.tail _ (.tail _ (.head _))) (fun p hp => .tail _ (.tail _ (.tail _ (.tail _ (.tail _ (.tail _ hp))))))⟩) ?_
          intro t9 h9 tk9 F9 N9
          ktr_step
          rw [show (numb sixths.toNat 17 (Tn 2 z) != vl ((dg num.natAbs).map shd)) = false by rw [hfur]; simp]
          exact CutF.mk (by k_asm) (by k_asm) (fun _ h => .tail _ h)
        intro h tk F' N'
        dsimp only
        ktr_rel
        ktr_rel
        ktr_rel
        refine wpAny_Assign_Name ?_
        refine ListComp_C (F₀ := by k_asm) (by rfl) (by intro _; rfl) (by intro _; rfl) (by rfl) (by intro _ _; rfl) (by decide) ?_
        ktr_step
        refine ⟨_, _, _, _, fun i => ((List.range vs.size).map (fun j => Int.fmod (Int.fdiv (ns.getD j 0) (bs i)) 4 * 4 ^ j)).sum, rfl, rfl, Nat.le_of_ble_eq_true rfl, List.Mem.head _, by k_asm, by k_asm, ?ct, ?cf⟩
        case ct =>
          intro g i v I oI C oC c oc2 D' ys h tk E' hi hv F' N'
          obtain ⟨tb, rfl, hi3, hb⟩ := bs_of hi
          generalize hbs : bs i = b at hi hv hb
          ktr_step
          have hb0 : b ≠ 0 := by omega
          clear hi
          refine enum_src (fun j => Int.fmod (Int.fdiv (ns.getD j 0) b) 4 * 4 ^ j) rfl (by k_asm) (by k_asm) (News.isList (by k_asm) (by k_mem)) hvs ?et ?ef
          case et =>
            intro g i t xv C' oC' D2 ys2 m₂ h tk E2 hx hC h1 h2 F2 N2
            obtain ⟨t', rfl, hi⟩ := ints_at hI (i := i) (xv := xv) (by rw [Array.getElem?_toList]; exact hx)
            ktr_step
          case ef =>
            intro g D2 h tk ys2 hys2 F2 N2 o2
            ktr_step
            exact CellEnd.mk (by k_asm) (by k_asm) (fun _ hp => .tail _ hp) (by rw [← hbs])
        case cf =>
          intro D' h tk ys hys F' N' o1
          obtain ⟨c0, c1, c2, rfl⟩ := ints3 hys
          clear hys
          have hv16 : vs.size ≤ 16 := by rw [← Array.length_toList, hI.length]; exact hlen
          have cb0 := col_bd ns vs.size (bs 0) hv16
          have cb1 := col_bd ns vs.size (bs 1) hv16
          have cb2 := col_bd ns vs.size (bs 2) hv16
          generalize ((List.range vs.size).map (fun j => Int.fmod (Int.fdiv (ns.getD j 0) (bs 0)) 4 * 4 ^ j)).sum = a0 at *
          generalize ((List.range vs.size).map (fun j => Int.fmod (Int.fdiv (ns.getD j 0) (bs 1)) 4 * 4 ^ j)).sum = a1 at *
          generalize ((List.range vs.size).map (fun j => Int.fmod (Int.fdiv (ns.getD j 0) (bs 2)) 4 * 4 ^ j)).sum = a2 at *
          dsimp only [LCg.Off1] at o1
          refine el_a7 o1 ?_; clear o1
          intro o2 o3 o4 o5 o6 o7 o8
          try dsimp only at hDp2 hD92
          ktr_step
          unfold LCg.FinA
          intro D3 h tk F' N' o1
          dsimp only [LCg.Off1] at o1
          refine el_a8 o1 ?_; clear o1
          intro o12 o13 o14 o15 o16 o17 o18 o19
          dsimp only
          have ez : a0 - min3 a0 a1 a2 - (a2 - min3 a0 a1 a2) = a0 - a2 ∧ a1 - min3 a0 a1 a2 - (a2 - min3 a0 a1 a2) = a1 - a2 := ⟨sb_sb _ _ _, sb_sb _ _ _⟩
          have hnd : nrm (a0 - min3 a0 a1 a2 - (a2 - min3 a0 a1 a2), a1 - min3 a0 a1 a2 - (a2 - min3 a0 a1 a2)) ≤ bd 17 := by
            rw [ez.1, ez.2, bd17]; exact Int.le_trans (nrm_box cb0 cb1 cb2) (by decide)
          have hnd1 : nrm (a0 - min3 a0 a1 a2 - (a2 - min3 a0 a1 a2), a1 - min3 a0 a1 a2 - (a2 - min3 a0 a1 a2)) ≤ 2 ^ 32 - 1 := by
            rw [ez.1, ez.2]; exact nrm_box cb0 cb1 cb2
          have ecan : can (a0 - min3 a0 a1 a2 - (a2 - min3 a0 a1 a2), a1 - min3 a0 a1 a2 - (a2 - min3 a0 a1 a2)) = (a0 - min3 a0 a1 a2, a1 - min3 a0 a1 a2, a2 - min3 a0 a1 a2) := by
            rw [ez.1, ez.2]; exact can_sh _ _ _
          generalize hd0 : a0 - min3 a0 a1 a2 = d0 at *
          generalize hd1 : a1 - min3 a0 a1 a2 = d1 at *
          generalize hd2 : a2 - min3 a0 a1 a2 = d2 at *
          ktr_step
          refine useV (c_number _ _ _ _ D3 D9 d0 d1 d2 sixths 17 _ _ _ _ s0 s5 (by decide) hnd) (by exact ⟨News.isList (by k_asm) (.head _), shAt_news shl (by k_asm) (by k_mem) (fun p hp => by repeat (first | exact hp | refine List.Mem.tail _ ?_))⟩) ?_
          intro t9 h9 tk9 F9 N9
          have hhz := hz_numb sixths.toNat 17 (d0 - d2, d1 - d2) hnd
          have hsm2 := small_numb sixths.toNat (B := 2 ^ 32 - 1) (by decide) 17 (d0 - d2, d1 - d2) hnd hnd1
          have hn0 := numb_nonneg sixths.toNat 17 (d0 - d2, d1 - d2)
          have hn1 := numb_lt sixths.toNat 17 (d0 - d2, d1 - d2)
          clear hnd hnd1 ez
          generalize numb sixths.toNat 17 (d0 - d2, d1 - d2) = nn at *
          have hap3 : (-nn).natAbs < 16 ^ 100 := by
            rw [Int.natAbs_neg]
            have : nn.natAbs < 16 ^ 17 := by
              have h17 : (16 : Int) ^ 17 = ((16 ^ 17 : Nat) : Int) := by decide
              rw [h17] at hn1
              omega
            exact Nat.lt_trans this (by decide)
          ktr_step
          refine useB (c_ap _ _ _ _ _ _ hap3) trivial ?_
          intro b9 t9 h9 tk9 hb9 F9 N9
          rw [Int.natAbs_neg] at hb9
          ktr_step
          refine useL (c_painted _ _ _ _ D9 b9 (dg nn.natAbs) sixths white _ _ _ hb9 (dg_lt _) w0 w7 s0 s5 hsm2) (by exact shAt_news shl (by k_asm) (by k_mem) (fun p hp => by repeat (first | exact hp | refine List.Mem.tail _ ?_))) ?_
          intro Dq v0 v1 v2 nq h9 tk9 _ F9 N9
          rw [hhz, ecan] at N9
          dsimp only at N9
          ktr_step
  all_goals (try k_data))
end Mine
end
set_option maxRecDepth 100000 in
set_option maxHeartbeats 8000000 in
theorem PySem.Challenge.cw_pg0052_01_holds : PySem.Challenge.rw_pg0052_01.Holds :=
  Mine.law_holds
