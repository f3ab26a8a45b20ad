import PyProof.Rows.All
import Wide.All
import OpenK.AllK
import Wide.FinOn
import PySem.Challenge.RW_uc0019_01
set_option Elab.async false
set_option compiler.extract_closed false
set_option maxRecDepth 100000
set_option maxHeartbeats 8000000
section
open PySem PySem.W PyProof.Rows
namespace Mine
theorem ofS_eq : Str.ofString = fun s => ⟨((PySem.W.S.toListS s).map Char.toNat).toArray⟩ := by
  funext s
  rw [Str.ofString_eq_byList]
  show Str.ofStringByList s = ⟨((PySem.W.S.toListS s).map Char.toNat).toArray⟩
  rw [← PySem.W.S.toListS_eq]
  rfl
noncomputable def progG : (String → Str) → Program := by
  refine (?f : Challenge.pw_uc0019_01 = (?G : (String → Str) → Program) Str.ofString → (String → Str) → Program) ?k
  case k =>
    unfold Challenge.pw_uc0019_01
    generalize Str.ofString = F
    exact rfl
  case f => exact fun _ => ?G
noncomputable def warm.tw12197857332524247498 : Program := progG fun s => ⟨((PySem.W.S.toListS s).map Char.toNat).toArray⟩
theorem warm.te12197857332524247498 : Challenge.pw_uc0019_01 = warm.tw12197857332524247498 := (rfl : _ = progG Str.ofString).trans (congrArg progG ofS_eq)
set_option Elab.async true in
theorem warm : (fun _ : Program => true) Challenge.pw_uc0019_01 = true := by k_qdec
theorem warm2 : True := trivial
open_top hd for PySem.Challenge.rw_uc0019_01
end Mine
end
example : ∀ _ : Nat, True := by (try walk1); w_top off; (try intro _); trivial
section
open PySem PySem.W PySem.W.X PySem.Calls PyProof.Rows
namespace Mine
noncomputable def Lv (d : Nat) : Around := { handled := none, depth := d, frames := none, guards := none, units := 10 * d }
structure ALe (A B : Around) : Prop where
  h : A.handled = B.handled
  d : A.depth ≤ B.depth
  u : A.units ≤ B.units
  f : B.frames = none
  g : B.guards = none
theorem wp_le {α : Type} {M : Model} {A B : Around} {t : Sem α} {Q : α → Shared → Prop} {E : Value → Shared → Prop} {s : Shared} (a : ALe A B) (h : wpAny M B t Q E s) : wpAny M A t Q E s :=
  fun Γ p hΓ => h Γ p ⟨hΓ.1.trans a.h, Nat.le_trans hΓ.2.1 a.d, (fun l hl => by rw [a.f] at hl; cases hl), (fun l hl => by rw [a.g] at hl; cases hl), Nat.le_trans hΓ.2.2.2.2 a.u⟩
theorem code_le {M : Model} {A B : Around} {c : Code} {R : Result → Shared → Prop} {s : Shared} (a : ALe A B) (h : codeAny M B c R s) : codeAny M A c R s :=
  fun Γ p hc hΓ => h Γ p hc ⟨hΓ.1.trans a.h, Nat.le_trans hΓ.2.1 a.d, (fun l hl => by rw [a.f] at hl; cases hl), (fun l hl => by rw [a.g] at hl; cases hl), Nat.le_trans hΓ.2.2.2.2 a.u⟩
theorem ale_lv {A : Around} {d : Nat} (h : A.handled = none) (hd : A.depth ≤ d) (hu : A.units ≤ 10 * d) : ALe A (Lv d) := ⟨h, hd, hu, rfl, rfl⟩
noncomputable def Apart (l : List Addr) : Prop := l.Nodup
inductive UpdP (d : Addr) (o o' : Obj) : List (Addr × Obj) → List (Addr × Obj) → Prop
  | head {r} : UpdP d o o' ((d, o) :: r) ((d, o') :: r)
  | tail {p r r'} : UpdP d o o' r r' → UpdP d o o' (p :: r) (p :: r')
theorem UpdP.mem {d : Addr} {o o' : Obj} : ∀ {l l' : List (Addr × Obj)}, UpdP d o o' l l' → d ∈ l.map (·.1)
  | _, _, .head => List.mem_cons_self
  | _, _, .tail h => List.mem_cons_of_mem _ h.mem
theorem upd_nd {d : Addr} {o o' : Obj} : ∀ {l l' : List (Addr × Obj)}, Apart (l.map (·.1)) → UpdP d o o' l l' → Upd d o o' l l'
  | _, _, n, .head => .head fun p hp e => (List.nodup_cons.mp n).1 (List.mem_map.mpr ⟨p, hp, e⟩)
  | _, _, n, .tail h => .tail (fun e => (List.nodup_cons.mp n).1 (by have q := h.mem; rw [← e] at q; exact q)) (upd_nd (List.nodup_cons.mp n).2 h)
inductive UpdFP (d : Addr) (o : Obj) : List (Addr × Obj) → (Obj → List (Addr × Obj)) → Prop
  | head {r} : UpdFP d o ((d, o) :: r) (fun o' => (d, o') :: r)
  | tail {p r g} : UpdFP d o r g → UpdFP d o (p :: r) (fun o' => p :: g o')
theorem UpdFP.mem {d : Addr} {o : Obj} : ∀ {l : List (Addr × Obj)} {g : Obj → List (Addr × Obj)}, UpdFP d o l g → d ∈ l.map (·.1)
  | _, _, .head => List.mem_cons_self
  | _, _, .tail h => List.mem_cons_of_mem _ h.mem
theorem updF_nd {d : Addr} {o : Obj} : ∀ {l : List (Addr × Obj)} {g : Obj → List (Addr × Obj)}, Apart (l.map (·.1)) → UpdFP d o l g → UpdF d o l g
  | _, _, n, .head => .head fun p hp e => (List.nodup_cons.mp n).1 (List.mem_map.mpr ⟨p, hp, e⟩)
  | _, _, n, .tail h => .tail (fun e => (List.nodup_cons.mp n).1 (by have q := h.mem; rw [← e] at q; exact q)) (updF_nd (List.nodup_cons.mp n).2 h)
theorem apart_lt {l : List (Addr × Obj)} {a : Addr} (h : ∀ p ∈ l, p.1 < a) (n : Apart (l.map (·.1))) : Apart (a :: l.map (·.1)) :=
  List.nodup_cons.mpr ⟨fun q => by obtain ⟨p, hp, e⟩ := List.mem_map.mp q; exact absurd (h p hp) (by rw [e]; exact Nat.lt_irrefl _), n⟩
theorem apart_lt2 {l : List (Addr × Obj)} {a b : Addr} (h : ∀ p ∈ l, p.1 < a) (n : Apart (l.map (·.1))) (h2 : a < b) : Apart (b :: a :: l.map (·.1)) :=
  List.nodup_cons.mpr ⟨fun q => by
    rcases List.mem_cons.mp q with e | q
    · exact absurd h2 (by rw [e]; exact Nat.lt_irrefl _)
    · obtain ⟨p, hp, e⟩ := List.mem_map.mp q; exact absurd (Nat.lt_trans (h p hp) h2) (by rw [e]; exact Nat.lt_irrefl _), apart_lt h n⟩
structure Gr (g h : Heap) (T : List (Addr × Obj)) : Prop where
  keep : ∀ b o, g.get? b = some o → h.get? b = some o
  own : ∀ p ∈ T, h.get? p.1 = some p.2 ∧ g.get? p.1 = none
  size : g.objs.size ≤ h.objs.size
theorem Gr.news {g h h₁ : Heap} {T : List (Addr × Obj)} (G : Gr g h T) (k : ∀ b o, h.get? b = some o → h₁.get? b = some o) : News g h.objs.size h₁ T :=
  fun p hp => ⟨k _ _ (G.own p hp).1, Nat.ne_of_lt (Heap.lt_size (G.own p hp).1), (G.own p hp).2⟩
noncomputable def Lve (g : Heap) (R : Result → Shared → Prop) (v : Value) (s' : Shared) : Prop :=
  ∃ L m T, Fr g L s'.heap m ∧ News g L s'.heap T ∧ (Gr g s'.heap T → R (.ok (.ret v)) s')
theorem lve_ {g : Heap} {L : Addr} {m : Str → Option Value} {T : List (Addr × Obj)} {R : Result → Shared → Prop} {v : Value} {s' : Shared} (F : Fr g L s'.heap m) (N : News g L s'.heap T) (k : Gr g s'.heap T → R (.ok (.ret v)) s') : Lve g R v s' := ⟨L, m, T, F, N, k⟩
theorem Lve.out {g : Heap} {R : Result → Shared → Prop} {v : Value} {s' : Shared} (h : Lve g R v s') : R (.ok (.ret v)) s' := by
  obtain ⟨L, m, T, F, N, k⟩ := h
  refine k ⟨F.keep, fun p hp => ⟨(N p hp).1, (N p hp).2.2⟩, ?_⟩
  exact Nat.le_of_lt (Nat.lt_of_le_of_lt F.above F.ns.lt)
section
variable {prog : Program} {w : World} {A : Around} {s : Shared} {g : Heap} {T : List (Addr × Obj)} {K : Frag} {mg mb : Str → Option Value} {p : Program} {loose : List Str} {mean : ExcName → Option Value}
  {R : Result → Shared → Prop} {name qual : Str} {params : Arguments} {body : List Stmt} {scope : Scope} {dV kV doc pm cdv ct oc : Value} {an od : Option Addr} {osl : Array (Option Value)} {f : Addr} {args : Args} {binds : List (Str × Value)}
theorem enter (X : K.In g) (Tp : Top p loose mean mg mb g) (G : Gr g s.heap T)
    (ho : K.lookup f = some ⟨oc, od, .func (fnOf name qual params body scope dV kV doc pm an cdv ct), osl⟩) (hcd : codeIn K cdv qual = true) (hroom : A.depth < recursionLimit)
    (hbind : BindsTo s (fnOf name qual params body scope dV kV doc pm an cdv ct) args binds) (hloc : ∀ y ∈ binds, scope.names.lookup y.1 = some .local)
    (h : ∀ L' h₁, Fr g L' h₁ (fun y => binds.reverse.lookup y) → News g L' h₁ T →
      wpAny (model prog w) (A.deeper (envOf qual scope L' f cdv)) (execs body (envOf qual scope L' f cdv))
        (fun fl s' => Lve g R (match fl with | .ret v => v | _ => .none) s')
        (fun e s' => wpAny (model prog w) (A.deeper (envOf qual scope L' f cdv)) (leaving (envOf qual scope L' f cdv) e) (fun _ s'' => R (.error e) s'') (fun e' s'' => R (.error e') s'') s')
        { s with heap := h₁, toks := s.toks + binds.length })
    (hco : scope.isCoroutine = false) (hgen : scope.isGenerator = false) (hk : scope.kind = .function)
    (hcell : ∀ x ∈ scope.names, x.2 ≠ .cell) : codeAny (model prog w) A (.call (.ref f) args) R s := by
  refine codeAny_call_def (fd := fnOf name qual params body scope dV kV doc pm an cdv ct) (body := body) (binds := binds) hroom (G.keep _ _ (X _ _ ho)) rfl (Tp.nolimit.keeps G.keep) ((codeRec_of X hcd).keeps G.keep) rfl hbind hcell hloc (fun h₁ hns hk₁ => ?_) hco hgen hk
  exact wpAny_mono (h _ h₁ ⟨hns, fun b o e => hk₁ b o (G.keep b o e), G.size⟩ (G.news hk₁)) (fun fl s' hl => hl.out) fun _ _ y => y
end
section
variable {prog : Program} {w : World} {A : Around} {E : Value → Shared → Prop} {s : Shared} {g : Heap} {L : Addr} {m : Str → Option Value} {T rest led : List (Addr × Obj)} {Q : Value → Shared → Prop}
inductive Take (p : Addr × Obj) : List (Addr × Obj) → List (Addr × Obj) → Prop
  | head {r} : Take p (p :: r) r
  | tail {q r r'} : Take p r r' → Take p (q :: r) (q :: r')
inductive TakeAll : List (Addr × Obj) → List (Addr × Obj) → List (Addr × Obj) → Prop
  | nil {l} : TakeAll l [] l
  | cons {l p mid T r} : Take p l mid → TakeAll mid T r → TakeAll l (p :: T) r
  | byPerm {l T r} : l.Perm (T ++ r) → TakeAll l T r
theorem Take.perm {p : Addr × Obj} : ∀ {l r : List (Addr × Obj)}, Take p l r → l.Perm (p :: r)
  | _, _, .head => .refl _
  | _, _, .tail h => (h.perm.cons _).trans (.swap ..)
theorem TakeAll.perm : ∀ {l T r : List (Addr × Obj)}, TakeAll l T r → l.Perm (T ++ r)
  | _, _, _, .nil => .refl _
  | _, _, _, .cons h k => h.perm.trans (k.perm.cons _)
  | _, _, _, .byPerm h => h
theorem TakeAll.whole {U : List (Addr × Obj)} : TakeAll U U [] := .byPerm (by rw [List.append_nil])
theorem TakeAll.skip {a : Addr × Obj} {l U r : List (Addr × Obj)} (h : TakeAll l U r) : TakeAll (a :: l) U (a :: r) := .byPerm ((h.perm.cons a).trans (List.perm_middle.symm))
theorem TakeAll.joined {l U V r m : List (Addr × Obj)} (h : TakeAll l U m) (k : TakeAll m V r) : TakeAll l (U ++ V) r := .byPerm (by rw [List.append_assoc]; exact h.perm.trans (k.perm.append_left U))
theorem TakeAll.front {U V : List (Addr × Obj)} : TakeAll (U ++ V) U V := .byPerm (.refl _)
theorem TakeAll.back {U V W r : List (Addr × Obj)} (h : TakeAll V W r) : TakeAll (U ++ V) W (U ++ r) := .byPerm ((h.perm.append_left U).trans (by
  rw [← List.append_assoc, ← List.append_assoc]; exact List.perm_append_comm.append_right r))
theorem frame_call {c : Code} (F : Fr g L s.heap m) (N : News g L s.heap led) (nd : Apart (led.map (·.1))) (tk : TakeAll led T rest)
    (h : ∀ g', (∀ b o, g.get? b = some o → g'.get? b = some o) → Gr g' s.heap T →
      codeAny (model prog w) A c (fun r s' => match r with
        | .ok (.ret v) => ∃ T', Gr g' s'.heap T' ∧ Apart (T'.map (·.1)) ∧ (Fr g L s'.heap m → News g L s'.heap (T' ++ rest) → Apart ((T' ++ rest).map (·.1)) → Q v s')
        | _ => False) s) :
    codeAny (model prog w) A c (fun r s' => match r with | .ok (.ret v) => Q v s' | .ok _ => False | .error e => E e s') s := by
  have pm := tk.perm
  have hT : ∀ p ∈ T, p ∈ led := fun p hp => pm.mem_iff.mpr (List.mem_append_left _ hp)
  have hr : ∀ p ∈ rest, p ∈ led := fun p hp => pm.mem_iff.mpr (List.mem_append_right _ hp)
  have nd' : Apart ((T ++ rest).map (·.1)) := (pm.map _).nodup_iff.mp nd
  have nm : ∀ b o, g.get? b = some o → b ∉ T.map (·.1) := fun b o e q => by
    obtain ⟨p, hp, rfl⟩ := List.mem_map.mp q
    rw [(N p (hT p hp)).2.2] at e; cases e
  have st : ∀ b o, g.get? b = some o → (hideAll s.heap (T.map (·.1))).get? b = some o := fun b o e => hideAll_get _ (F.keep b o e) (nm b o e)
  refine codeAny_mono (h (hideAll s.heap (T.map (·.1))) st ⟨fun b o e => of_hideAll _ e, fun p hp => ⟨(N p (hT p hp)).1, hideAll_none _ (List.mem_map_of_mem hp)⟩, Nat.le_of_eq (hideAll_size _ _)⟩) fun r s' hx => ?_
  rcases r with e | (v | _ | _ | _) <;> first | exact hx.elim | skip
  obtain ⟨T', G, nT', k⟩ := hx
  obtain ⟨oL, es, ep, hL, hLd, hLk, hLf⟩ := F.ns
  have nL : L ∉ T.map (·.1) := fun q => by
    obtain ⟨p, hp, e⟩ := List.mem_map.mp q
    exact (N p (hT p hp)).2.1 e
  have hLg := hideAll_get (T.map (·.1)) hL nL
  have hrest : ∀ p ∈ rest, (hideAll s.heap (T.map (·.1))).get? p.1 = some p.2 := fun p hp => hideAll_get _ (N p (hr p hp)).1 fun q => by
    obtain ⟨q', hq', e⟩ := List.mem_map.mp q
    have hd : Apart (T.map (·.1) ++ rest.map (·.1)) := by rw [← List.map_append]; exact nd'
    exact (List.nodup_append.mp hd).2.2 q'.1 (List.mem_map_of_mem hq') p.1 (List.mem_map_of_mem hp) e
  refine k ⟨⟨oL, es, ep, G.keep L oL hLg, hLd, hLk, hLf⟩, fun b o e => G.keep b o (st b o e), F.above⟩ (fun p hp => ?_) ?_
  · rcases List.mem_append.mp hp with hp | hp
    · refine ⟨(G.own p hp).1, fun q => ?_, ?_⟩
      · have := (G.own p hp).2; rw [q, hLg] at this; cases this
      · cases q : g.get? p.1 with
        | none => rfl
        | some o => have := (G.own p hp).2; rw [st _ _ q] at this; cases this
    · exact ⟨G.keep _ _ (hrest p hp), (N p (hr p hp)).2.1, (N p (hr p hp)).2.2⟩
  · have hd : Apart (T.map (·.1) ++ rest.map (·.1)) := by rw [← List.map_append]; exact nd'
    show Apart ((T' ++ rest).map (·.1))
    rw [List.map_append]
    refine List.nodup_append.mpr ⟨nT', (List.nodup_append.mp hd).2.1, fun a ha b hb e => ?_⟩
    obtain ⟨p, hp, rfl⟩ := List.mem_map.mp ha
    obtain ⟨q, hq, rfl⟩ := List.mem_map.mp hb
    have := (G.own p hp).2
    rw [e, hrest q hq] at this; cases this
end
end Mine
namespace Mine
noncomputable def Spec (w : World) (d : Nat) (f : Addr) (args : List Value) (T : List (Addr × Obj)) (P : Value → List (Addr × Obj) → Prop) : Prop :=
  ∀ (g : Heap) (s : Shared) (R : Result → Shared → Prop) (p : Program) (loose : List Str) (mean : ExcName → Option Value) (mg mb : Str → Option Value),
    (hd.heap_39 w.params).In g → Top p loose mean mg mb g → Gr g s.heap T → Apart (T.map (·.1)) →
    (∀ v T' h' tk, P v T' → Gr g h' T' → Apart (T'.map (·.1)) → R (.ok (.ret v)) { s with heap := h', toks := tk }) →
    codeAny (model Challenge.rw_uc0019_01.row.prog w) (Lv d) (.call (.ref f) ⟨args, []⟩) R s
theorem call_spec {w : World} {d : Nat} {f : Addr} {args : List Value} {T rest led : List (Addr × Obj)} {P : Value → List (Addr × Obj) → Prop} {A : Around} {g : Heap} {L : Addr} {m mg mb : Str → Option Value} {s : Shared} {Q : Value → Shared → Prop} {E : Value → Shared → Prop}
    {p : Program} {loose : List Str} {mean : ExcName → Option Value}
    (S : Spec w d f args T P) (F : Fr g L s.heap m) (X : (hd.heap_39 w.params).In g) (Tp : Top p loose mean mg mb g) (N : News g L s.heap led) (nd : Apart (led.map (·.1))) (tk : TakeAll led T rest) (hA : ALe A (Lv d))
    (h : ∀ v T' h' tk, P v T' → Fr g L h' m → News g L h' (T' ++ rest) → Apart ((T' ++ rest).map (·.1)) → Q v { s with heap := h', toks := tk }) :
    wpAny (model Challenge.rw_uc0019_01.row.prog w) A (call (.ref f) args []) Q E s := by
  refine wpAny_call (code_le hA (frame_call F N nd tk fun g' hg G => ?_))
  refine S g' s _ p loose mean mg mb (X.keeps hg) (Tp.keeps hg) G ?_ fun v T' h' tk' hp G' n' => ⟨T', G', n', fun F' N' ND => h v T' h' tk' hp F' N' ND⟩
  have pm := (tk.perm.map (fun x : Addr × Obj => x.1)).nodup_iff.mp nd
  rw [List.map_append] at pm
  exact (List.nodup_append.mp pm).1
theorem fa (f : Addr) {M : Model} {A : Around} {a : List Value} {k : List (Str × Value)} {Q : Value → Shared → Prop} {E : Value → Shared → Prop} {s : Shared} (h : wpAny M A (call (.ref f) a k) Q E s) : wpAny M A (call (.ref f) a k) Q E s := h
theorem cs {w : World} {d : Nat} {f : Addr} {args : List Value} {T rest led : List (Addr × Obj)} {P : Value → List (Addr × Obj) → Prop} {A : Around} {g : Heap} {L : Addr} {m mg mb : Str → Option Value} {s : Shared} {Q : Value → Shared → Prop} {E : Value → Shared → Prop}
    {p : Program} {loose : List Str} {mean : ExcName → Option Value}
    (F : Fr g L s.heap m := by k_asm) (X : (hd.heap_39 w.params).In g := by k_asm) (Tp : Top p loose mean mg mb g := by k_asm) (N : News g L s.heap led := by k_asm) (nd : Apart (led.map (·.1)) := by k_dflt assumption) (tk : TakeAll led T rest := by walk_at "m take") (hA : ALe A (Lv d) := by exact ale_lv (by rfl) (Nat.le_of_ble_eq_true rfl) (Nat.le_of_ble_eq_true rfl))
    (S : Spec w d f args T P) (h : ∀ v T' h' tk, P v T' → Fr g L h' m → News g L h' (T' ++ rest) → Apart ((T' ++ rest).map (·.1)) → Q v { s with heap := h', toks := tk }) :
    wpAny (model Challenge.rw_uc0019_01.row.prog w) A (call (.ref f) args []) Q E s := call_spec S F X Tp N nd tk hA h
noncomputable abbrev tupOf (l : List Value) (n : Nat) : Obj := { cls := .type "tuple", data := .seq l.toArray n }
end Mine
end
section
open PySem PySem.W PySem.W.X PySem.Calls PyProof.Rows PyProof.Rows.LCg PyProof.Rows.LCt
namespace Mine
noncomputable abbrev SoV := Str → Option Value
noncomputable abbrev EoV := ExcName → Option Value
noncomputable abbrev FsP := Flow → Shared → Prop
noncomputable abbrev VsP := Value → Shared → Prop
noncomputable abbrev RsP := Result → Shared → Prop
noncomputable abbrev Led := List (Addr × Obj)
noncomputable abbrev LoV := List (Str × Value)
theorem neWorld : Nonempty World := ⟨⟨fun _ _ => 0, { strHash := fun _ => 0, shareClass := fun _ => 0, mergeTok := id, idOf := fun _ => 0, idOfShared := fun _ _ => 0, followText := fun _ => true, idOfImm := fun _ => 0 }⟩⟩
theorem neShared : Nonempty Shared := ⟨{}⟩
theorem neAround : Nonempty Around := ⟨Lv 0⟩
theorem nePos : Nonempty Pos := ⟨⟨0, 0, 0, 0⟩⟩
theorem neExpr : Nonempty PySem.Expr := ⟨.Name (Str.ofString "") ⟨0, 0, 0, 0⟩⟩
theorem neScope : Nonempty Scope := ⟨{ kind := .function, names := [], isGenerator := false, isCoroutine := false }⟩
theorem neEnv : Nonempty Env := neScope.elim fun sc => ⟨envOf (Str.ofString "") sc 0 0 .none⟩
theorem nePair {α β : Type} (a : Nonempty α) (b : Nonempty β) : Nonempty (α × β) := a.elim fun x => b.elim fun y => ⟨(x, y)⟩
theorem eps {α : Type} {ne : Nonempty α} {P : α → Prop} (h : P (@Classical.epsilon α ne fun c => ¬ P c)) (a : α) : P a :=
  Classical.byContradiction fun q => Classical.epsilon_spec_aux ne (fun c => ¬ P c) ⟨a, q⟩ h
noncomputable def upick {α : Type} (ne : Nonempty α) (P : α → Prop) : α := @Classical.epsilon α ne fun c => ¬ P c
theorem pk {α : Type} {ne : Nonempty α} {P : α → Prop} {c : α} (e : c = upick ne P) (h : P c) (a : α) : P a := by subst e; exact eps h a
noncomputable def ucat {F A G B r : Type} (u : F → A → G) (v : G → B → r) (f : F) (c : A × B) : r := v (u f c.1) c.2
noncomputable def un1 {a r : Type} (f : a → r) (c : a) : r := f c
noncomputable def un2 {a b r : Type} (f : a → b → r) (c : a × b) : r := f c.1 c.2
noncomputable def un4 {a0 a1 a2 a3 r : Type} (f : a0 → a1 → a2 → a3 → r) := ucat un2 un2 f
noncomputable def un8 {a0 a1 a2 a3 a4 a5 a6 a7 r : Type} (f : a0 → a1 → a2 → a3 → a4 → a5 → a6 → a7 → r) := ucat un4 un4 f
noncomputable def un16 {a0 a1 a2 a3 a4 a5 a6 a7 a8 a9 a10 a11 a12 a13 a14 a15 r : Type} (f : a0 → a1 → a2 → a3 → a4 → a5 → a6 → a7 → a8 → a9 → a10 → a11 → a12 → a13 → a14 → a15 → r) := ucat un8 un8 f
noncomputable def un32 {a0 a1 a2 a3 a4 a5 a6 a7 a8 a9 a10 a11 a12 a13 a14 a15 a16 a17 a18 a19 a20 a21 a22 a23 a24 a25 a26 a27 a28 a29 a30 a31 r : Type} (f : a0 → a1 → a2 → a3 → a4 → a5 → a6 → a7 → a8 → a9 → a10 → a11 → a12 → a13 → a14 → a15 → a16 → a17 → a18 → a19 → a20 → a21 → a22 → a23 → a24 → a25 → a26 → a27 → a28 → a29 → a30 → a31 → r) := ucat un16 un16 f
noncomputable def un64 {a0 a1 a2 a3 a4 a5 a6 a7 a8 a9 a10 a11 a12 a13 a14 a15 a16 a17 a18 a19 a20 a21 a22 a23 a24 a25 a26 a27 a28 a29 a30 a31 a32 a33 a34 a35 a36 a37 a38 a39 a40 a41 a42 a43 a44 a45 a46 a47 a48 a49 a50 a51 a52 a53 a54 a55 a56 a57 a58 a59 a60 a61 a62 a63 r : Type} (f : a0 → a1 → a2 → a3 → a4 → a5 → a6 → a7 → a8 → a9 → a10 → a11 → a12 → a13 → a14 → a15 → a16 → a17 → a18 → a19 → a20 → a21 → a22 → a23 → a24 → a25 → a26 → a27 → a28 → a29 → a30 → a31 → a32 → a33 → a34 → a35 → a36 → a37 → a38 → a39 → a40 → a41 → a42 → a43 → a44 → a45 → a46 → a47 → a48 → a49 → a50 → a51 → a52 → a53 → a54 → a55 → a56 → a57 → a58 → a59 → a60 → a61 → a62 → a63 → r) := ucat un32 un32 f
noncomputable def SpecAt (w : World) (d : Nat) (f : Addr) (args : List Value) (T : List (Addr × Obj)) (P : Value → List (Addr × Obj) → Prop) (g : Heap) (s : Shared) (R : Result → Shared → Prop) (p : Program) (loose : List Str) (mean : ExcName → Option Value) (mg mb : Str → Option Value) : Prop :=
    (hd.heap_39 w.params).In g → Top p loose mean mg mb g → Gr g s.heap T → Apart (T.map (·.1)) →
    (∀ v T' h' tk, P v T' → Gr g h' T' → Apart (T'.map (·.1)) → R (.ok (.ret v)) { s with heap := h', toks := tk }) →
    codeAny (model Challenge.rw_uc0019_01.row.prog w) (Lv d) (.call (.ref f) ⟨args, []⟩) R s
section
variable {prog : Program} {w : World} {A : Around} {s : Shared} {g : Heap} {T : List (Addr × Obj)} {K : Frag} {mg mb : Str → Option Value} {p : Program} {loose : List Str} {mean : ExcName → Option Value}
  {R : Result → Shared → Prop} {name qual : Str} {params : Arguments} {body : List Stmt} {scope : Scope} {dV kV doc pm cdv ct oc : Value} {an od : Option Addr} {osl : Array (Option Value)} {f : Addr} {args : Args} {binds : List (Str × Value)}
theorem enterS (X : K.In g) (Tp : Top p loose mean mg mb g) (G : Gr g s.heap T)
    (ho : K.lookup f = some ⟨oc, od, .func (fnOf name qual params body scope dV kV doc pm an cdv ct), osl⟩) (hcd : codeIn K cdv qual = true) (hroom : A.depth < recursionLimit)
    (hbind : BindsTo s (fnOf name qual params body scope dV kV doc pm an cdv ct) args binds) (hloc : ∀ y ∈ binds, scope.names.lookup y.1 = some .local)
    (h : ∀ h₁, Fr g s.heap.objs.size h₁ (fun y => binds.reverse.lookup y) → News g s.heap.objs.size h₁ T →
      wpAny (model prog w) (A.deeper (envOf qual scope s.heap.objs.size f cdv)) (execs body (envOf qual scope s.heap.objs.size f cdv))
        (fun fl s' => Lve g R (match fl with | .ret v => v | _ => .none) s')
        (fun e s' => wpAny (model prog w) (A.deeper (envOf qual scope s.heap.objs.size f cdv)) (leaving (envOf qual scope s.heap.objs.size f cdv) e) (fun _ s'' => R (.error e) s'') (fun e' s'' => R (.error e') s'') s')
        { s with heap := h₁, toks := s.toks + binds.length })
    (hco : scope.isCoroutine = false) (hgen : scope.isGenerator = false) (hk : scope.kind = .function)
    (hcell : ∀ x ∈ scope.names, x.2 ≠ .cell) : codeAny (model prog w) A (.call (.ref f) args) R s := by
  refine codeAny_call_def (fd := fnOf name qual params body scope dV kV doc pm an cdv ct) (body := body) (binds := binds) hroom (G.keep _ _ (X _ _ ho)) rfl (Tp.nolimit.keeps G.keep) ((codeRec_of X hcd).keeps G.keep) rfl hbind hcell hloc (fun h₁ hns hk₁ => ?_) hco hgen hk
  exact wpAny_mono (h h₁ ⟨hns, fun b o e => hk₁ b o (G.keep b o e), G.size⟩ (G.news hk₁)) (fun fl s' hl => hl.out) fun _ _ y => y
end
end Mine
end
section
open PySem PySem.W PySem.W.X PySem.Calls PyProof.Rows
namespace Mine
section
variable {prog : Program} {w : World} {A : Around} {E : Value → Shared → Prop} {s : Shared} {g : Heap} {L l : Addr} {m : Str → Option Value} {led : List (Addr × Obj)}
theorem listAt {its : Array Value} {n : Nat} (N : News g L s.heap led) (hq : (l, W.listOf its n) ∈ led) : s.heap.IsList l its := ⟨_, (N _ hq).1, rfl, n, rfl⟩
theorem truthy_cons {v : Value} {vs : List Value} {n : Nat} {Q : Bool → Shared → Prop} (N : News g L s.heap led) (hq : (l, W.listOf (v :: vs).toArray n) ∈ led) (hz : vs.length ≤ 100000)
    (h : ∀ tk, Q true { s with toks := tk }) : wpAny (model prog w) A (truthy (.ref l)) Q E s :=
  wpAny_truthy_list (listAt N hq) (by rw [List.size_toArray, List.length_cons]; lia) (h _)
theorem truthy_nil {n : Nat} {Q : Bool → Shared → Prop} (N : News g L s.heap led) (hq : (l, W.listOf #[] n) ∈ led)
    (h : ∀ tk, Q false { s with toks := tk }) : wpAny (model prog w) A (truthy (.ref l)) Q E s :=
  wpAny_truthy_list (listAt N hq) (by decide) (h _)
theorem size_line {n : Nat} (h : n ≤ 100000) : n ≤ sizeLine := Nat.le_trans h (by decide)
theorem pop0 {v : Value} {vs : List Value} {n : Nat} {u : Tok} {led' : List (Addr × Obj)} {Q : Value → Shared → Prop} (F : Fr g L s.heap m) (N : News g L s.heap led) (U : Upd l (W.listOf (v :: vs).toArray n) (W.listOf vs.toArray (n + 1)) led led') (hz : vs.length ≤ 10000)
    (h : ∀ h', Fr g L h' m → News g L h' led' → Q v { s with heap := h' }) : wpAny (model prog w) A (call (.builtin "list.pop") [.ref l, .int 0 u]) Q E s :=
  kl_popAt (p := []) (q := vs) (k := 0) F N (by decide) (by unfold seqIndex?; simp) rfl U (size_line (by simp; lia)) h
theorem insert0 {v : Value} {vs : List Value} {n : Nat} {u : Tok} {led' : List (Addr × Obj)} {Q : Value → Shared → Prop} (F : Fr g L s.heap m) (N : News g L s.heap led) (U : Upd l (W.listOf vs.toArray n) (W.listOf (v :: vs).toArray (n + 1)) led led') (hz : vs.length ≤ 10000)
    (h : ∀ h', Fr g L h' m → News g L h' led' → Q .none { s with heap := h' }) : wpAny (model prog w) A (call (.builtin "list.insert") [.ref l, .int 0 u, v]) Q E s :=
  kl_insert (l := v :: vs) F N (by decide) (by unfold kl_ins; simp) U (size_line (by simp; lia)) h
end
end Mine
end
section
open PySem PySem.W PySem.W.X PySem.Calls PyProof.Rows
namespace Mine
noncomputable def over (V : List (Str × Value)) (m : Str → Option Value) (y : Str) : Option Value := match V.lookup y with | some v => some v | none => m y
theorem over_eq {V : List (Str × Value)} {m : Str → Option Value} {x : Str} {v : Value} (h : ∀ p ∈ V, m p.1 = some p.2) : (fun y => if y = x then some v else m y) = over ((x, v) :: V) m := by
  funext y
  unfold over
  rw [List.lookup_cons]
  by_cases e : y = x
  · subst e; simp
  · rw [if_neg e, show (y == x) = false from by simpa using e]
    cases q : V.lookup y with
    | none => rfl
    | some u => exact h (y, u) (mem_of_lookup q)
theorem over_same {V : List (Str × Value)} {m : Str → Option Value} (h : ∀ p ∈ V, m p.1 = some p.2) : over V m = m := by
  funext y
  unfold over
  cases q : V.lookup y with
  | none => rfl
  | some u => exact (h (y, u) (mem_of_lookup q)).symm
noncomputable def Loc (m : Str → Option Value) : List (Str × Value) → Prop
  | [] => True
  | p :: r => m p.1 = some p.2 ∧ Loc m r
theorem Loc.all {m : Str → Option Value} {V : List (Str × Value)} (h : Loc m V) : ∀ p ∈ V, m p.1 = some p.2 := by
  induction V with
  | nil => intro p hp; cases hp
  | cons q r ih =>
    intro p hp
    rcases List.mem_cons.mp hp with e | hp
    · rw [e]; exact h.1
    · exact ih h.2 p hp
noncomputable def Sub (led : List (Addr × Obj)) : List (Addr × Obj) → Prop
  | [] => True
  | p :: r => p ∈ led ∧ Sub led r
theorem Sub.all {led T : List (Addr × Obj)} (h : Sub led T) : ∀ p ∈ T, p ∈ led := by
  induction T with
  | nil => intro p hp; cases hp
  | cons q r ih =>
    intro p hp
    rcases List.mem_cons.mp hp with e | hp
    · rw [e]; exact h.1
    · exact ih h.2 p hp
section
variable {prog : Program} {w : World} {A : Around} {E : Value → Shared → Prop} {g : Heap} {L I : Addr} {env : Env} {x : Str} {px : Pos} {body orelse : List Stmt}
noncomputable def TurnE (g : Heap) (L I : Addr) (oI : Obj) (J : List (Str × Value) → List (Addr × Obj) → Prop) (s : Shared) (Q : Flow → Shared → Prop) (f : Flow) (s' : Shared) : Prop :=
  match f with
  | .ret v => Q (.ret v) s'
  | .brk => Q .next s'
  | _ => ∃ h' tk m V T, s' = { s with heap := h', toks := tk } ∧ Fr g L h' m ∧ Loc m V ∧ News g L h' ((I, oI) :: T) ∧ Apart (I :: T.map (·.1)) ∧ J V T
theorem TurnE.next {oI : Obj} {J : List (Str × Value) → List (Addr × Obj) → Prop} {s : Shared} {Q : Flow → Shared → Prop} {h' : Heap} {tk : Nat} {m : Str → Option Value} {led : List (Addr × Obj)} (F : Fr g L h' m) (N : News g L h' led)
    (V : List (Str × Value)) (T : List (Addr × Obj)) (l : Loc m V) (sub : Sub led ((I, oI) :: T)) (nd : Apart (I :: T.map (·.1))) (j : J V T) : TurnE g L I oI J s Q .next { s with heap := h', toks := tk } :=
  ⟨h', tk, m, V, T, rfl, F, l, fun p hp => N p (sub.all p hp), nd, j⟩
theorem TurnE.cont {oI : Obj} {J : List (Str × Value) → List (Addr × Obj) → Prop} {s : Shared} {Q : Flow → Shared → Prop} {h' : Heap} {tk : Nat} {m : Str → Option Value} {led : List (Addr × Obj)} (F : Fr g L h' m) (N : News g L h' led)
    (V : List (Str × Value)) (T : List (Addr × Obj)) (l : Loc m V) (sub : Sub led ((I, oI) :: T)) (nd : Apart (I :: T.map (·.1))) (j : J V T) : TurnE g L I oI J s Q .cont { s with heap := h', toks := tk } :=
  ⟨h', tk, m, V, T, rfl, F, l, fun p hp => N p (sub.all p hp), nd, j⟩
theorem loop_rule {fp : List Addr} {n : Nat} {P : Nat → Value → Prop} {St : Nat → Heap → Prop} {S : List (Addr × Obj) → Prop} {s : Shared} {Q : Flow → Shared → Prop} {m₀ : Str → Option Value} {T₀ : List (Addr × Obj)} {V₀ : List (Str × Value)}
    (J : Nat → List (Str × Value) → List (Addr × Obj) → Prop)
    (W : Walks prog w A I fp [I] n P St) (hIo : ∀ i h, St i h → ∃ o, h.get? I = some o)
    (hSt : ∀ i h h' o nw, St i h → h.get? I = some o → h'.get? I = some o → (∀ b o, g.get? b = some o → h'.get? b = some o) → News g L h' nw → S nw → St i h')
    (hL : env.locals = L) (hx : env.kindOf x = some .local) (hp : (env.scope.kind == .class || (env.scope.kind == .module && env.locals != env.globals)) = false) (hLf : L ∉ fp)
    (hst : St 0 s.heap) (F : Fr g L s.heap m₀) (l : Loc m₀ V₀) (N : News g L s.heap T₀) (nd : Apart (I :: T₀.map (·.1))) (hIL : L ≠ I) (hI : g.get? I = none)
    (hJ : J 0 V₀ T₀) (hS : ∀ i V T, J i V T → S T)
    (ht : ∀ v, letOwnedTupleGo (.Name x px) (.ref I) v = pure ())
    (turn : ∀ i v m V T h tk oI (E' : Value → Shared → Prop), i < n → P i v → J i V T → Fr g L h (over ((x, v) :: V) m) → News g L h ((I, oI) :: T) → Apart (I :: T.map (·.1)) →
      wpAny (model prog w) A (execs body env) (TurnE g L I oI (J (i + 1)) { s with heap := h, toks := tk } Q) E' { s with heap := h, toks := tk })
    (done : ∀ m V T h tk (E' : Value → Shared → Prop), J n V T → Fr g L h (over V m) → News g L h T → Apart (T.map (·.1)) → wpAny (model prog w) A (execs orelse env) Q E' { s with heap := h, toks := tk }) :
    codeAny (model prog w) A (.forLoop (.Name x px) (.ref I) body orelse env) (fun r s' => match r with | .ok f => Q f s' | .error e => E e s') s := by
  subst hL
  refine codeAny_forLoop_any (fun k s' => ∃ h' tk i m V T, s' = { s with heap := h', toks := tk } ∧ i ≤ n ∧ k = n + 1 - i ∧ St i h' ∧ Fr g env.locals h' m ∧ Loc m V ∧ News g env.locals h' T ∧ Apart (I :: T.map (·.1)) ∧ J i V T) ?_ (n + 1)
    ⟨s.heap, s.toks, 0, m₀, V₀, T₀, rfl, Nat.zero_le _, rfl, hst, F, l, N, nd, hJ⟩
  rintro k s' ⟨h', tk, i, m, V, T, rfl, hi, rfl, st, F', l', N', nd', j⟩
  have off : ∀ p ∈ T, p.1 ≠ I := fun p hp e => (List.nodup_cons.mp nd').1 (List.mem_map.mpr ⟨p, hp, e⟩)
  by_cases hlt : i < n
  · refine W.item i _ _ _ hlt st fun v h₂ tk₂ hPv st₂ hk₂ => ?_
    have F₂ : Fr g env.locals h₂ m := LCg.fr_but F' hk₂ hIL hI
    have N₂ : News g env.locals h₂ T := LCg.news_but N' hk₂ off
    refine wpAny_of_eq (ht v) ?_
    refine wpAny_assign_Name (wpAny_storeName_local hx F₂.ns (fun h₃ hn₃ hs₃ => ?_) hp)
    have F₃ : Fr g env.locals h₃ (fun y => if y = x then some v else m y) := F₂.set hn₃ hs₃
    rw [over_eq l'.all] at F₃
    have N₃ := N₂.set hs₃
    have st₃ : St (i + 1) h₃ := W.frame _ _ _ st₂ fun b hb o e => hs₃.extBut b o (fun q => hLf (by have q' : b = env.locals := q; rw [← q']; exact hb)) e
    obtain ⟨oI, heI⟩ := hIo _ _ st₃
    have N₃' : News g env.locals h₃ ((I, oI) :: T) := fun p hp => by
      rcases List.mem_cons.mp hp with rfl | hp
      · exact ⟨heI, Ne.symm hIL, hI⟩
      · exact N₃ p hp
    refine wpAny_mono (turn i v m V T h₃ _ oI _ hlt hPv j F₃ N₃' nd') (fun f s₄ z => ?_) fun _ _ e => e
    have fin : (∃ h' tk' m V T, s₄ = { s with heap := h', toks := tk' } ∧ Fr g env.locals h' m ∧ Loc m V ∧ News g env.locals h' ((I, oI) :: T) ∧ Apart (I :: T.map (·.1)) ∧ J (i + 1) V T) →
        ∃ m, m < n + 1 - i ∧ ∃ h' tk i m_1 V T, s₄ = { s with heap := h', toks := tk } ∧ i ≤ n ∧ m = n + 1 - i ∧ St i h' ∧ Fr g env.locals h' m_1 ∧ Loc m_1 V ∧ News g env.locals h' T ∧ Apart (I :: T.map (·.1)) ∧ J i V T := by
      rintro ⟨h₅, tk₅, m₅, V₅, T₅, rfl, F₅, l₅, N₅, nd₅, j₅⟩
      have N₅' : News g env.locals h₅ T₅ := fun p hp => N₅ p (List.mem_cons_of_mem _ hp)
      exact ⟨n + 1 - (i + 1), by lia, h₅, tk₅, i + 1, m₅, V₅, T₅, rfl, hlt, rfl, hSt _ _ _ _ _ st₃ heI (N₅ _ List.mem_cons_self).1 F₅.keep N₅' (hS _ _ _ j₅), F₅, l₅, N₅', nd₅, j₅⟩
    cases f with
    | next => exact fin z
    | cont => exact fin z
    | brk => exact z
    | ret v => exact z
  · obtain rfl : i = n := Nat.le_antisymm hi (Nat.not_lt.mp hlt)
    refine W.done _ _ _ st fun h₂ tk₂ hk₂ => ?_
    have F₂ : Fr g env.locals h₂ m := LCg.fr_but F' hk₂ hIL hI
    rw [← over_same l'.all] at F₂
    exact wpAny_mono (done m V T h₂ _ _ j F₂ (LCg.news_but N' hk₂ off) (List.nodup_cons.mp nd').2) (fun f s₃ z => z) fun _ _ e => e
theorem new_none {s : Shared} {m : Str → Option Value} (F : Fr g L s.heap m) : g.get? s.heap.objs.size = none := next_is_new F
theorem apart_new {s : Shared} {T : List (Addr × Obj)} (N : News g L s.heap T) (nd : Apart (T.map (·.1))) : Apart (s.heap.objs.size :: T.map (·.1)) := apart_lt (fun p hp => Heap.lt_size (N p hp).1) nd
theorem for_range {r : Addr} {a b c : Int} {tu tv tw : Tok} {n : Nat} {s : Shared} {Q : Flow → Shared → Prop} {m₀ : Str → Option Value} {T₀ : List (Addr × Obj)} (J : Nat → List (Str × Value) → List (Addr × Obj) → Prop) (V₀ : List (Str × Value))
    (hh : A.handled = none) (hr : IsRange s.heap r a b c tu tv tw) (hsm : Builtin.Range.small a b c = true) (hn : Builtin.Range.rangeSize a b c = ((n : Nat) : Int))
    (hL : env.locals = L) (hx : env.kindOf x = some .local) (hp : (env.scope.kind == .class || (env.scope.kind == .module && env.locals != env.globals)) = false)
    (F : Fr g L s.heap m₀) (l : Loc m₀ V₀) (N : News g L s.heap T₀) (nd : Apart (T₀.map (·.1))) (hJ : J 0 V₀ T₀)
    (turn : ∀ i t m V T h tk I oI (E' : Value → Shared → Prop), i < n → J i V T → Fr g L h (over ((x, .int (a + (i : Int) * c) t) :: V) m) → News g L h ((I, oI) :: T) → Apart (I :: T.map (·.1)) →
      wpAny (model prog w) A (execs body env) (TurnE g L I oI (J (i + 1)) { s with heap := h, toks := tk } Q) E' { s with heap := h, toks := tk })
    (done : ∀ m V T h tk (E' : Value → Shared → Prop), J n V T → Fr g L h (over V m) → News g L h T → Apart (T.map (·.1)) → wpAny (model prog w) A (execs orelse env) Q E' { s with heap := h, toks := tk }) :
    wpAny (model prog w) A (pyIter (.ref r)) (fun it s₂ => codeAny (model prog w) A (.forLoop (.Name x px) it body orelse env) (fun r s' => match r with | .ok f => Q f s' | .error e => cameBackBy (model prog w) A env E e s') s₂) E s := by
  refine wpAny_pyIter_range hr hsm ?_
  have up : ∀ (o : Obj) b o', s.heap.get? b = some o' → (s.heap.push o).get? b = some o' := fun _ b o' e => Heap.get?_push_of_some _ e
  refine loop_rule (I := s.heap.objs.size) (S := fun _ => True) (m₀ := m₀) (T₀ := T₀) (V₀ := V₀) J (Walks.range hh s.heap.objs.size a c n) (fun i h st => ⟨_, st⟩)
    (fun i h h' o nw st e e' _ _ _ => by
      have st' : h.get? s.heap.objs.size = some _ := st
      show h'.get? s.heap.objs.size = some _
      rw [e', ← e]; exact st') hL hx hp
    (by rw [List.mem_singleton]; exact Nat.ne_of_lt F.ns.lt) (by show IsRangeIter _ _ _ _ _; rw [hn]; simpa using Heap.get?_push_size _ rfl) (F.keeps (up _)) l (N.grown (up _)) (apart_new N nd) (Nat.ne_of_lt F.ns.lt) (new_none F) hJ (fun _ _ _ _ => trivial) (fun _ => rfl) ?_ ?_
  · rintro i v m V T h tk oI E' hi ⟨t, rfl⟩ j F' N' nd'
    exact turn i t m V T h tk _ oI E' hi j F' N' nd'
  · intro m V T h tk E' j F' N' nd'
    exact done m V T h tk E' j F' N' nd'
end
end Mine
end
section
open PySem PySem.W PySem.W.X PySem.Calls PyProof.Rows
namespace Mine
noncomputable abbrev Tx (l : List Nat) : Str := ⟨l.toArray⟩
theorem tx_len (l : List Nat) : (Tx l).length = l.length := by simp [Str.length]
theorem tx_append (a b : List Nat) : Tx a ++ Tx b = Tx (a ++ b) := by
  show Str.append _ _ = _
  simp [Str.append]
theorem foldl_app (a : Array Nat) : ∀ (n : Nat) (acc : List Nat), (List.replicate n a).foldl (· ++ ·) acc.toArray = (acc ++ (List.replicate n a.toList).flatten).toArray
  | 0, acc => by simp
  | n + 1, acc => by
    rw [List.replicate_succ, List.foldl_cons, List.replicate_succ, List.flatten_cons, ← List.append_assoc]
    have : acc.toArray ++ a = (acc ++ a.toList).toArray := by apply Array.ext'; simp
    rw [this, foldl_app a n]
theorem tx_mul (l : List Nat) (n : Int) : Txt.mul (Tx l) n = Tx (List.replicate n.toNat l).flatten := by
  unfold Txt.mul
  split
  · rw [show n.toNat = 0 by lia]; rfl
  · split
    · rename_i h
      rw [Bool.or_eq_true] at h
      rcases h with h | h
      · rw [show n.toNat = 1 by have := eq_of_beq h; lia]; simp
      · have : l = [] := by simpa [Str.length] using h
        subst this; simp
    · have := foldl_app (Tx l).cps n.toNat []
      simp only [List.nil_append] at this
      rw [show (#[] : Array Nat) = [].toArray from rfl, this]
theorem flat1 (c : Nat) : ∀ n : Nat, (List.replicate n [c]).flatten = List.replicate n c
  | 0 => rfl
  | k + 1 => by rw [List.replicate_succ, List.flatten_cons, flat1 c k, List.replicate_succ]; rfl
theorem tx_mul1 (c : Nat) (n : Int) : Txt.mul (Tx [c]) n = Tx (List.replicate n.toNat c) := by
  rw [tx_mul]
  congr 2
  induction n.toNat with
  | zero => rfl
  | succ k ih => rw [List.replicate_succ, List.flatten_cons, ih, List.replicate_succ]; rfl
theorem of_tab : Str.ofString "\t" = Tx [9] := by decide +kernel
theorem of_sp : Str.ofString " " = Tx [32] := by decide +kernel
theorem of_sptab : Str.ofString " \t" = Tx [32, 9] := by decide +kernel
theorem of_dottab : Str.ofString ".\t" = Tx [46, 9] := by decide +kernel
noncomputable def lead (a o k : Nat) : List Nat :=
  if k = 0 then List.replicate (a - o) 9 ++ List.replicate (a + 2 * o) 32 ++ [46, 9]
  else List.replicate (2 * a - o) 9 ++ (List.replicate o [32, 9]).flatten ++ [46, 9]
noncomputable def StrV (v : Value) (l : List Nat) : Prop := ∃ t, v = .str (Tx l) t
noncomputable def IntV (v : Value) (n : Int) : Prop := ∃ t, v = .int n t
theorem strV {x : Str} {t : Tok} {l : List Nat} (h : x = Tx l) : StrV (.str x t) l := ⟨t, by rw [h]⟩
theorem intV {x : Int} {t : Tok} {n : Int} (h : x = n) : IntV (.int x t) n := ⟨t, by rw [h]⟩
theorem lve_take {g : Heap} {L : Addr} {m : Str → Option Value} {led T rest : List (Addr × Obj)} {R : Result → Shared → Prop} {v : Value} {s' : Shared} (F : Fr g L s'.heap m) (N : News g L s'.heap led) (nd : Apart (led.map (·.1))) (tk : TakeAll led T rest)
    (k : Gr g s'.heap T → Apart (T.map (·.1)) → R (.ok (.ret v)) s') : Lve g R v s' := by
  have pm := tk.perm
  have nd' : Apart ((T ++ rest).map (·.1)) := (pm.map _).nodup_iff.mp nd
  rw [List.map_append] at nd'
  exact lve_ F (fun p hp => N p (pm.mem_iff.mpr (List.mem_append_left _ hp))) fun G => k G (List.nodup_append.mp nd').1
end Mine
end
section
namespace Mine
noncomputable def nameL : Nat → List Nat
  | 0 => [79, 80, 84, 73, 77, 73, 90, 69, 68]
  | 1 => [78, 69, 87, 76, 79, 67, 65, 76, 83]
  | 2 => [86, 65, 82, 65, 82, 71, 83]
  | 3 => [86, 65, 82, 75, 69, 89, 87, 79, 82, 68, 83]
  | 4 => [78, 69, 83, 84, 69, 68]
  | 5 => [71, 69, 78, 69, 82, 65, 84, 79, 82]
  | 6 => [78, 79, 70, 82, 69, 69]
  | 7 => [67, 79, 82, 79, 85, 84, 73, 78, 69]
  | 8 => [73, 84, 69, 82, 65, 66, 76, 69, 95, 67, 79, 82, 79, 85, 84, 73, 78, 69]
  | 9 => [65, 83, 89, 78, 67, 95, 71, 69, 78, 69, 82, 65, 84, 79, 82]
  | 10 => [48, 120, 52, 48, 48]
  | 11 => [48, 120, 56, 48, 48]
  | 12 => [48, 120, 49, 48, 48, 48]
  | 13 => [48, 120, 50, 48, 48, 48]
  | _ => []
end Mine
end
section
open PySem PySem.W PySem.W.X PySem.Calls PyProof.Rows PyProof.Rows.LCg PyProof.Rows.LCt
namespace Mine
theorem off3_of {I C D : Addr} {T : List (Addr × Obj)} (h : Apart (I :: C :: D :: T.map (·.1))) : Off3 I C D T := Off3.of fun p hp => by
  have m : p.1 ∈ T.map (·.1) := List.mem_map_of_mem hp
  obtain ⟨h1, h⟩ := List.nodup_cons.mp h
  obtain ⟨h2, h⟩ := List.nodup_cons.mp h
  obtain ⟨h3, h⟩ := List.nodup_cons.mp h
  exact ⟨fun e => h1 (by rw [← e]; exact List.mem_cons_of_mem _ (List.mem_cons_of_mem _ m)), fun e => h2 (by rw [← e]; exact List.mem_cons_of_mem _ m), fun e => h3 (by rw [← e]; exact m)⟩
theorem apart3_of {I C D : Addr} {T : List (Addr × Obj)} (o : Off3 I C D T) (ne : (@Ne Nat I C) ∧ (@Ne Nat I D) ∧ (@Ne Nat C D)) (h : Apart (T.map (·.1))) : Apart (I :: C :: D :: T.map (·.1)) := by
  have om := o.mem
  have nm : ∀ a, (∀ p ∈ T, p.1 ≠ a) → a ∉ T.map (·.1) := fun a q hm => by obtain ⟨p, hp, e⟩ := List.mem_map.mp hm; exact q p hp e
  refine List.nodup_cons.mpr ⟨fun hm => ?_, List.nodup_cons.mpr ⟨fun hm => ?_, List.nodup_cons.mpr ⟨nm _ fun p hp => (om p hp).2.2, h⟩⟩⟩
  · rcases List.mem_cons.mp hm with e | hm
    · exact ne.1 e
    · rcases List.mem_cons.mp hm with e | hm
      · exact ne.2.1 e
      · exact nm _ (fun p hp => (om p hp).1) hm
  · rcases List.mem_cons.mp hm with e | hm
    · exact ne.2.2 e
    · exact nm _ (fun p hp => (om p hp).2.1) hm
theorem apart1_of {D : Addr} : ∀ {T : List (Addr × Obj)}, Off1 D T → Apart (T.map (·.1)) → Apart (D :: T.map (·.1)) := by
  intro T o h
  refine List.nodup_cons.mpr ⟨?_, h⟩
  clear h
  induction T with
  | nil => intro hm; cases hm
  | cons p r ih =>
    intro hm
    rcases List.mem_cons.mp hm with e | hm
    · exact o.1 e.symm
    · exact ih o.2 hm
section
variable {prog : Program} {w : World} {A : Around} {E : Value → Shared → Prop} {s : Shared} {g : Heap} {L : Addr} {m : Str → Option Value} {env : Env}
noncomputable def TurnC (g : Heap) (L : Addr) (m : Str → Option Value) (I C D : Addr) (oI oC oD : Obj) (s : Shared) (J : Value → List (Addr × Obj) → Prop) (y : Value) (s' : Shared) : Prop :=
  ∃ h' tk T, s' = { s with heap := h', toks := tk } ∧ Fr g L h' m ∧ News g L h' ((I, oI) :: (C, oC) :: (D, oD) :: T) ∧ Apart (I :: C :: D :: T.map (·.1)) ∧ J y T
theorem TurnC.mk {I C D : Addr} {oI oC oD : Obj} {J : Value → List (Addr × Obj) → Prop} {y : Value} {h' : Heap} {tk : Nat} {led rest : List (Addr × Obj)} (F : Fr g L h' m) (N : News g L h' led) (nd : Apart (led.map (·.1)))
    (T : List (Addr × Obj)) (tks : TakeAll led ((I, oI) :: (C, oC) :: (D, oD) :: T) rest) (j : J y T) : TurnC g L m I C D oI oC oD s J y { s with heap := h', toks := tk } := by
  have pm := tks.perm
  refine ⟨h', tk, T, rfl, F, fun p hp => N p (pm.mem_iff.mpr (List.mem_append_left _ hp)), ?_, j⟩
  have nd' := (pm.map (fun x : Addr × Obj => x.1)).nodup_iff.mp nd
  rw [List.map_append] at nd'
  exact (List.nodup_append.mp nd').1
theorem rest_J {elt : Expr} {x : Str} {scope : Scope} {cl : List (Str × Addr)} {S : List (Addr × Obj) → Prop} {P : Nat → Value → Prop} {Fin : List Value → List (Addr × Obj) → Prop} {n : Nat} {T₀ : List (Addr × Obj)}
    (J : Nat → List Value → List (Addr × Obj) → Prop) (nd : Apart (T₀.map (·.1))) (j₀ : J 0 [] T₀) (hS : ∀ i ys T, J i ys T → S T)
    (turn : ∀ i v ys T I oI C oC D m₂ h tk (E' : Value → Shared → Prop), i < n → P i v → J i ys T → NsObj oC m₂ → m₂ x = some v → Fr g L h m → News g L h ((I, oI) :: (C, oC) :: (D, lst ys) :: T) → Apart (I :: C :: D :: T.map (·.1)) →
      wpAny (model prog w) A (eval elt (compEnvC scope cl C env)) (TurnC g L m I C D oI oC (lst ys) { s with heap := h, toks := tk } fun y T' => J (i + 1) (ys ++ [y]) T') E' { s with heap := h, toks := tk })
    (fin : ∀ ys T, J n ys T → Apart (T.map (·.1)) → Fin ys T) : CompRest prog w A g L m env elt x scope cl s S P Fin n 0 [] T₀ := by
  have key : ∀ (k i : Nat) (ys : List Value) (T : List (Addr × Obj)), i + k = n → J i ys T → Apart (T.map (·.1)) → CompRest prog w A g L m env elt x scope cl s S P Fin k i ys T := by
    intro k
    induction k with
    | zero => intro i ys T hi j nd; obtain rfl : i = n := by lia
              exact CompRest.zero (fin ys T j nd)
    | succ k ih =>
      intro i ys T hi j nd
      refine CompRest.succ ?_
      intro v I oI C oC D m₂ h tk E' hv hC hx F N off ne
      refine wpAny_mono (turn i v ys T I oI C oC D m₂ h tk E' (by lia) hv j hC hx F N (apart3_of off ne nd)) (fun y s₂ hq => ?_) fun _ _ e => e
      obtain ⟨h', tk', T', e, F', N', nd', j'⟩ := hq
      refine ⟨h', tk', T', e, F', N', off3_of nd', hS _ _ _ j', ih (i + 1) _ _ (by lia) j' ?_⟩
      exact (List.nodup_cons.mp (List.nodup_cons.mp (List.nodup_cons.mp nd').2).2).2
  exact key n 0 [] T₀ (by lia) j₀ nd
theorem restT_J {ct elt : Expr} {x : Str} {scope : Scope} {cl : List (Str × Addr)} {S : List (Addr × Obj) → Prop} {P : Nat → Value → Prop} {Fin : List Value → List (Addr × Obj) → Prop} {n : Nat} {T₀ : List (Addr × Obj)}
    (J : Nat → List Value → List (Addr × Obj) → Prop) (nd : Apart (T₀.map (·.1))) (j₀ : J 0 [] T₀) (hS : ∀ i ys T, J i ys T → S T)
    (turn : ∀ i v ys T I oI C oC D m₂ h tk (E' : Value → Shared → Prop), i < n → P i v → J i ys T → NsObj oC m₂ → m₂ x = some v → Fr g L h m → News g L h ((I, oI) :: (C, oC) :: (D, lst ys) :: T) → Apart (I :: C :: D :: T.map (·.1)) →
      wpAny (model prog w) A (isTrue ct (compEnvC scope cl C env) (eval ct (compEnvC scope cl C env))) (fun ok s' => if ok = true then
        wpAny (model prog w) A (eval elt (compEnvC scope cl C env)) (TurnC g L m I C D oI oC (lst ys) { s with heap := h, toks := tk } fun y T' => J (i + 1) (ys ++ [y]) T') E' s'
        else TurnC g L m I C D oI oC (lst ys) { s with heap := h, toks := tk } (fun _ T' => J (i + 1) ys T') Value.none s') E' { s with heap := h, toks := tk })
    (fin : ∀ ys T, J n ys T → Apart (T.map (·.1)) → Fin ys T) : CompRestT prog w A g L m env ct elt x scope cl s S P Fin n 0 [] T₀ := by
  have key : ∀ (k i : Nat) (ys : List Value) (T : List (Addr × Obj)), i + k = n → J i ys T → Apart (T.map (·.1)) → CompRestT prog w A g L m env ct elt x scope cl s S P Fin k i ys T := by
    intro k
    induction k with
    | zero => intro i ys T hi j nd; obtain rfl : i = n := by lia
              exact CompRestT.zero (fin ys T j nd)
    | succ k ih =>
      intro i ys T hi j nd
      refine CompRestT.succ ?_
      intro v I oI C oC D m₂ h tk E' hv hC hx F N off ne
      refine wpAny_mono (turn i v ys T I oI C oC D m₂ h tk E' (by lia) hv j hC hx F N (apart3_of off ne nd)) (fun ok s₂ hq => ?_) fun _ _ e => e
      cases ok with
      | true =>
        simp only [if_true] at hq ⊢
        refine wpAny_mono hq (fun y s₂ hq => ?_) fun _ _ e => e
        obtain ⟨h', tk', T', e, F', N', nd', j'⟩ := hq
        refine ⟨h', tk', T', e, F', N', off3_of nd', hS _ _ _ j', ih (i + 1) _ _ (by lia) j' ?_⟩
        exact (List.nodup_cons.mp (List.nodup_cons.mp (List.nodup_cons.mp nd').2).2).2
      | false =>
        simp only [Bool.false_eq_true, if_false] at hq ⊢
        obtain ⟨h', tk', T', e, F', N', nd', j'⟩ := hq
        refine ⟨h', tk', T', e, F', N', off3_of nd', hS _ _ _ j', ih (i + 1) _ _ (by lia) j' ?_⟩
        exact (List.nodup_cons.mp (List.nodup_cons.mp (List.nodup_cons.mp nd').2).2).2
  exact key n 0 [] T₀ (by lia) j₀ nd
theorem comp_list {elt : Expr} {x : Str} {scope : Scope} {cl : List (Str × Addr)} {ax : Addr} {vs : List Value} {c : Nat} {T₀ : List (Addr × Obj)} {Fin : Shared → List Value → List (Addr × Obj) → Prop}
    (J : Nat → List Value → List (Addr × Obj) → Prop) (hh : A.handled = none) (F : Fr g L s.heap m) (N : News g L s.heap T₀) (nd : Apart (T₀.map (·.1))) (hsz : vs.length ≤ 10000) (j₀ : J 0 [] T₀) (hS : ∀ i ys T, J i ys T → (ax, W.listOf vs.toArray c) ∈ T)
    (turn : ∀ i v ys T I oI C oC D m₂ h tk (E' : Value → Shared → Prop), i < vs.length → vs[i]? = some v → J i ys T → NsObj oC m₂ → m₂ x = some v → Fr g L h m → News g L h ((I, oI) :: (C, oC) :: (D, lst ys) :: T) → Apart (I :: C :: D :: T.map (·.1)) →
      wpAny (model prog w) A (eval elt (compEnvC scope cl C env)) (TurnC g L m I C D oI oC (lst ys) { s with heap := h, toks := tk } fun y T' => J (i + 1) (ys ++ [y]) T') E' { s with heap := h, toks := tk })
    (fin : ∀ gg ys T, J vs.length ys T → Apart (T.map (·.1)) → Fin { s with heap := gg } ys T) :
    CompSrc prog w A g L m env elt x scope cl Fin (.ref ax) s := by
  refine CompSrc.ledger hh F N (hS _ _ _ j₀) (Nat.le_trans (by rw [List.size_toArray]; exact hsz) (by decide)) fun gg => ?_
  rw [List.size_toArray]
  exact rest_J J nd j₀ (fun i ys T j => .inr ⟨_, hS _ _ _ j, rfl, _, rfl⟩) (fun i v ys T I oI C oC D m₂ h tk E' hi hv j hC hx F' N' nd' => turn i v ys T I oI C oC D m₂ h tk E' hi (by simpa using hv) j hC hx F' N' nd') (fin gg)
theorem comp_range {elt : Expr} {x : Str} {scope : Scope} {cl : List (Str × Addr)} {r : Addr} {a b : Int} {t u v : Tok} {n : Nat} {T₀ : List (Addr × Obj)} {Fin : Shared → List Value → List (Addr × Obj) → Prop}
    (J : Nat → List Value → List (Addr × Obj) → Prop) (hh : A.handled = none) (F : Fr g L s.heap m) (N : News g L s.heap T₀) (nd : Apart (T₀.map (·.1)))
    (hr : IsRange s.heap r a b 1 t u v) (hsm : Builtin.Range.small a b 1 = true) (hn : Builtin.Range.rangeSize a b 1 = ((n : Nat) : Int)) (hsz : n ≤ 10000) (j₀ : J 0 [] T₀)
    (turn : ∀ i t ys T I oI C oC D m₂ h tk (E' : Value → Shared → Prop), i < n → J i ys T → NsObj oC m₂ → m₂ x = some (.int (a + (i : Int)) t) → Fr g L h m → News g L h ((I, oI) :: (C, oC) :: (D, lst ys) :: T) → Apart (I :: C :: D :: T.map (·.1)) →
      wpAny (model prog w) A (eval elt (compEnvC scope cl C env)) (TurnC g L m I C D oI oC (lst ys) { s with heap := h, toks := tk } fun y T' => J (i + 1) (ys ++ [y]) T') E' { s with heap := h, toks := tk })
    (fin : ∀ gg ys T, J n ys T → Apart (T.map (·.1)) → Fin { s with heap := gg } ys T) :
    CompSrc prog w A g L m env elt x scope cl Fin (.ref r) s := by
  refine CompSrc.range hh F N hr hsm hn (Nat.le_trans hsz (by decide)) fun gg => ?_
  refine rest_J J nd j₀ (fun i ys T j => trivial) (fun i v ys T I oI C oC D m₂ h tk E' hi hv j hC hx F' N' nd' => ?_) (fin gg)
  obtain ⟨t', rfl⟩ := hv
  exact turn i t' ys T I oI C oC D m₂ h tk E' hi j hC hx F' N' nd'
theorem compT_list {ct elt : Expr} {x : Str} {scope : Scope} {cl : List (Str × Addr)} {ax : Addr} {vs : List Value} {c : Nat} {T₀ : List (Addr × Obj)} {Fin : Shared → List Value → List (Addr × Obj) → Prop}
    (J : Nat → List Value → List (Addr × Obj) → Prop) (hh : A.handled = none) (F : Fr g L s.heap m) (N : News g L s.heap T₀) (nd : Apart (T₀.map (·.1))) (hsz : vs.length ≤ 10000) (j₀ : J 0 [] T₀) (hS : ∀ i ys T, J i ys T → (ax, W.listOf vs.toArray c) ∈ T)
    (turn : ∀ i v ys T I oI C oC D m₂ h tk (E' : Value → Shared → Prop), i < vs.length → vs[i]? = some v → J i ys T → NsObj oC m₂ → m₂ x = some v → Fr g L h m → News g L h ((I, oI) :: (C, oC) :: (D, lst ys) :: T) → Apart (I :: C :: D :: T.map (·.1)) →
      wpAny (model prog w) A (isTrue ct (compEnvC scope cl C env) (eval ct (compEnvC scope cl C env))) (fun ok s' => if ok = true then
        wpAny (model prog w) A (eval elt (compEnvC scope cl C env)) (TurnC g L m I C D oI oC (lst ys) { s with heap := h, toks := tk } fun y T' => J (i + 1) (ys ++ [y]) T') E' s'
        else TurnC g L m I C D oI oC (lst ys) { s with heap := h, toks := tk } (fun _ T' => J (i + 1) ys T') Value.none s') E' { s with heap := h, toks := tk })
    (fin : ∀ gg ys T, J vs.length ys T → Apart (T.map (·.1)) → Fin { s with heap := gg } ys T) :
    CompSrcT prog w A g L m env ct elt x scope cl Fin (.ref ax) s := by
  refine CompSrcT.ledger hh F N (hS _ _ _ j₀) (Nat.le_trans (by rw [List.size_toArray]; exact hsz) (by decide)) fun gg => ?_
  rw [List.size_toArray]
  exact restT_J J nd j₀ (fun i ys T j => .inr ⟨_, hS _ _ _ j, rfl, _, rfl⟩) (fun i v ys T I oI C oC D m₂ h tk E' hi hv j hC hx F' N' nd' => turn i v ys T I oI C oC D m₂ h tk E' hi (by simpa using hv) j hC hx F' N' nd') (fin gg)
theorem compT_range {ct elt : Expr} {x : Str} {scope : Scope} {cl : List (Str × Addr)} {r : Addr} {a b : Int} {t u v : Tok} {n : Nat} {T₀ : List (Addr × Obj)} {Fin : Shared → List Value → List (Addr × Obj) → Prop}
    (J : Nat → List Value → List (Addr × Obj) → Prop) (hh : A.handled = none) (F : Fr g L s.heap m) (N : News g L s.heap T₀) (nd : Apart (T₀.map (·.1)))
    (hr : IsRange s.heap r a b 1 t u v) (hsm : Builtin.Range.small a b 1 = true) (hn : Builtin.Range.rangeSize a b 1 = ((n : Nat) : Int)) (hsz : n ≤ 10000) (j₀ : J 0 [] T₀)
    (turn : ∀ i t ys T I oI C oC D m₂ h tk (E' : Value → Shared → Prop), i < n → J i ys T → NsObj oC m₂ → m₂ x = some (.int (a + (i : Int)) t) → Fr g L h m → News g L h ((I, oI) :: (C, oC) :: (D, lst ys) :: T) → Apart (I :: C :: D :: T.map (·.1)) →
      wpAny (model prog w) A (isTrue ct (compEnvC scope cl C env) (eval ct (compEnvC scope cl C env))) (fun ok s' => if ok = true then
        wpAny (model prog w) A (eval elt (compEnvC scope cl C env)) (TurnC g L m I C D oI oC (lst ys) { s with heap := h, toks := tk } fun y T' => J (i + 1) (ys ++ [y]) T') E' s'
        else TurnC g L m I C D oI oC (lst ys) { s with heap := h, toks := tk } (fun _ T' => J (i + 1) ys T') Value.none s') E' { s with heap := h, toks := tk })
    (fin : ∀ gg ys T, J n ys T → Apart (T.map (·.1)) → Fin { s with heap := gg } ys T) :
    CompSrcT prog w A g L m env ct elt x scope cl Fin (.ref r) s := by
  refine CompSrcT.range hh F N hr hsm hn (Nat.le_trans hsz (by decide)) fun gg => ?_
  refine restT_J J nd j₀ (fun i ys T j => trivial) (fun i v ys T I oI C oC D m₂ h tk E' hi hv j hC hx F' N' nd' => ?_) (fin gg)
  obtain ⟨t', rfl⟩ := hv
  exact turn i t' ys T I oI C oC D m₂ h tk E' hi j hC hx F' N' nd'
end
end Mine
end
section
open PySem PySem.W PySem.W.X PySem.Calls PyProof.Rows
namespace Mine
theorem cells_addr {cm : Str → Option Value} {cs : List (Str × Addr)} {cells : List (Addr × Obj)} (x : CellsAre cm cs cells) : cells.map (·.1) = cs.map (·.2) := by
  induction x with
  | nil => rfl
  | cons _ _ ih => simp only [List.map_cons, ih]
noncomputable def CellsK (cm : Str → Option Value) : List (Str × Addr) → (List (Addr × Obj) → Prop) → Prop
  | [], P => P []
  | (n, c) :: r, P => ∀ o, o.data = .cell (cm n) → CellsK cm r fun l => P ((c, o) :: l)
theorem CellsK.out {cm : Str → Option Value} {cs : List (Str × Addr)} {cells : List (Addr × Obj)} (x : CellsAre cm cs cells) : ∀ {P : List (Addr × Obj) → Prop}, CellsK cm cs P → P cells := by
  induction x with
  | nil => exact fun h => h
  | cons d _ ih => exact fun h => ih (h _ d)
section
variable {prog : Program} {w : World} {A : Around} {s : Shared} {g : Heap} {T : List (Addr × Obj)} {K : Frag} {mg mb : Str → Option Value} {p : Program} {loose : List Str} {mean : ExcName → Option Value}
  {R : Result → Shared → Prop} {name qual : Str} {params : Arguments} {body : List Stmt} {scope : Scope} {dV kV doc pm cdv ct oc : Value} {an od : Option Addr} {osl : Array (Option Value)} {f : Addr} {args : Args} {binds : List (Str × Value)}
theorem enterC (X : K.In g) (Tp : Top p loose mean mg mb g) (G : Gr g s.heap T) (ND : Apart (T.map (·.1)))
    (ho : K.lookup f = some ⟨oc, od, .func (fnOf name qual params body scope dV kV doc pm an cdv ct), osl⟩) (hcd : codeIn K cdv qual = true) (hroom : A.depth < recursionLimit)
    (hbind : BindsTo s (fnOf name qual params body scope dV kV doc pm an cdv ct) args binds) (hkind : (binds.all fun y => scope.names.lookup y.1 == some .local || scope.names.lookup y.1 == some .cell) = true)
    (hnd : ((cellsFrom 0 scope.names []).map (·.1)).Nodup)
    {cl : Addr → List (Str × Addr)} (hcl : ∀ L', cellsFrom (L' + 1) scope.names [] = cl L')
    (h : ∀ L' h₁ tk, Fr g L' h₁ (bindL (envOfC qual scope L' f cdv).kindOf binds fun _ => none) →
      CellsK (bindC (envOfC qual scope L' f cdv).kindOf binds fun _ => none) (cl L') fun cells => News g L' h₁ (cells ++ T) → Apart ((cells ++ T).map (·.1)) →
      wpAny (model prog w) (A.deeper (envOfC qual scope L' f cdv)) (execs body (envOfC qual scope L' f cdv))
        (fun fl s' => Lve g R (match fl with | .ret v => v | _ => .none) s')
        (fun e s' => wpAny (model prog w) (A.deeper (envOfC qual scope L' f cdv)) (leaving (envOfC qual scope L' f cdv) e) (fun _ s'' => R (.error e) s'') (fun e' s'' => R (.error e') s'') s')
        { s with heap := h₁, toks := tk })
    (hco : scope.isCoroutine = false) (hgen : scope.isGenerator = false) (hk : scope.kind = .function) : codeAny (model prog w) A (.call (.ref f) args) R s := by
  have ho' := G.keep _ _ (X _ _ ho)
  refine codeAny_call_function hroom ho' rfl hco hgen rfl ((codeRec_of X hcd).keeps G.keep) (hbind _ _ _ _ ?_)
  refine wpAny_newFunctionEnv_cells hk (kindsX hkind _) fun env' he s' x => ?_
  subst he
  refine ⟨(Tp.nolimit.keeps G.keep).keeps x.toInCall.keep, codeAny_func ?_⟩
  obtain ⟨h₁, tk, rfl, _⟩ := x.done
  have hk₁ := x.toInCall.keep
  obtain ⟨cells, NC, Y⟩ := Cl.news (h₀ := s.heap) (Nat.le_refl _) fun n c hm => ⟨x.cell n c (lookup_of_mem_nodup (cellsFrom_names scope.names 0 (s.heap.objs.size + 1) [] [] rfl ▸ hnd) hm), x.above n c hm⟩
  refine wpAny_mono (CellsK.out (hcl _ ▸ Y) (h s.heap.objs.size h₁ tk ⟨x.toInCall.ns, fun b o e => hk₁ b o (G.keep b o e), G.size⟩) (fun p hp => ?_) ?_) (fun fl s' hl => hl.out) fun _ _ y => y
  · rcases List.mem_append.mp hp with hp | hp
    · refine ⟨(NC p hp).1, (NC p hp).2.1, ?_⟩
      cases q : g.get? p.1 with
      | none => rfl
      | some o => have := G.keep _ _ q; rw [(NC p hp).2.2] at this; cases this
    · exact G.news hk₁ p hp
  · show Apart ((cells ++ T).map (·.1))
    rw [List.map_append]
    refine List.nodup_append.mpr ⟨?_, ND, fun a ha b hb e => ?_⟩
    · rw [cells_addr Y]
      have := x.apart
      exact List.pairwise_map.mpr this
    · obtain ⟨q, hq, rfl⟩ := List.mem_map.mp ha
      obtain ⟨r, hr, rfl⟩ := List.mem_map.mp hb
      have := (NC q hq).2.2
      rw [e, (G.own r hr).1] at this; cases this
end
theorem ints_next {ys : List Value} {ns : List Int} {f : Int → Int} {i : Nat} {k : Int} {t : Tok} (h : IntsAre ys ((ns.take i).map f)) (hk : ns[i]? = some k) : IntsAre (ys ++ [.int (f k) t]) ((ns.take (i + 1)).map f) := by
  rw [List.take_add_one, hk]
  simpa using IntsAre.append h (.cons (f k) t .nil)
theorem ints_end {ys : List Value} {vs : List Value} {ns : List Int} {f : Int → Int} (ia : IntsAre vs ns) (h : IntsAre ys ((ns.take vs.length).map f)) : IntsAre ys (ns.map f) := by
  rwa [ia.length, List.take_length] at h
theorem strs_app {a b : List Value} {x y : List Str} (h : StrsAre a x) (k : StrsAre b y) : StrsAre (a ++ b) (x ++ y) := by
  induction h with
  | nil => exact k
  | cons _ _ _ ih => exact .cons _ _ ih
theorem strs_len {a : List Value} {x : List Str} (h : StrsAre a x) : a.length = x.length := by
  induction h with
  | nil => rfl
  | cons _ _ _ ih => simp [ih]
theorem strs_at {a : List Value} {x : List Str} (h : StrsAre a x) : ∀ (i : Nat) (v : Value), a[i]? = some v → ∃ y t, v = .str y t ∧ x[i]? = some y := by
  induction h with
  | nil => intro i v hv; simp at hv
  | cons y t _ ih =>
    intro i v hv
    cases i with
    | zero => simp at hv; exact ⟨y, t, hv.symm, by simp⟩
    | succ i => simpa using ih i v (by simpa using hv)
noncomputable abbrev TxsAre (vs : List Value) (ls : List (List Nat)) : Prop := StrsAre vs (ls.map Tx)
theorem txs_next {α : Type} {ys : List Value} {ns : List α} {f : α → List Nat} {i : Nat} {k : α} {x : Str} {t : Tok} (h : TxsAre ys ((ns.take i).map f)) (hk : ns[i]? = some k) (e : x = Tx (f k)) : TxsAre (ys ++ [.str x t]) ((ns.take (i + 1)).map f) := by
  subst e
  rw [List.take_add_one, hk]
  simpa [TxsAre] using strs_app h (.cons (Tx (f k)) t .nil)
noncomputable def joinL (sep : List Nat) : List (List Nat) → List Nat
  | [] => []
  | [x] => x
  | x :: y :: r => x ++ sep ++ joinL sep (y :: r)
theorem tx_join (sep : List Nat) : ∀ ls : List (List Nat), Str.join (Tx sep) (ls.map Tx) = Tx (joinL sep ls)
  | [] => rfl
  | [x] => rfl
  | x :: y :: r => by
    show Tx x ++ Tx sep ++ Str.join (Tx sep) ((y :: r).map Tx) = _
    rw [tx_join sep (y :: r), tx_append, tx_append]; rfl
theorem join0 : ∀ ls : List (List Nat), joinL [] ls = ls.flatten
  | [] => rfl
  | [x] => by simp [joinL]
  | x :: y :: r => by rw [joinL, join0 (y :: r)]; simp
theorem of_nil : Str.ofString "" = Tx [] := by decide +kernel
theorem of_cs : Str.ofString ", " = Tx [44, 32] := by decide +kernel
theorem join_txs {prog : Program} {w : World} {A : Around} {E : Value → Shared → Prop} {s : Shared} {g : Heap} {L : Addr} {led : List (Addr × Obj)} {Q : Value → Shared → Prop} {D : Addr} {vs : List Value} {ls : List (List Nat)} {n : Nat} {x : Str} {t : Tok}
    (sep : List Nat) (hx : x = Tx sep) (N : News g L s.heap led) (hm : (D, W.listOf vs.toArray n) ∈ led) (hi : TxsAre vs ls) (hs : sep.length ≤ 10) (hw : (ls.map List.length).sum + ls.length ≤ 100000)
    (h : ∀ t' k, Q (.str (Tx (joinL sep ls)) t') { s with toks := k }) : wpAny (model prog w) A (call (.builtin "str.join") [.str x t, .ref D]) Q E s := by
  subst hx
  refine join_listW (listAt N hm) (by simpa using hi) (by rw [tx_len]; lia) ?_ fun t' k => ?_
  · rw [List.map_map, show (fun x : Str => x.length) ∘ Tx = List.length from funext fun l => tx_len l, List.length_map]; lia
  · have q := tx_join sep ls
    have e : Txt.join (Tx sep) (ls.map Tx) = Tx (joinL sep ls) := (StrLaws.glued_eq_join _ _).trans q
    rw [e]; exact h t' k
theorem sum_len {ls : List (List Nat)} {B : Nat} (h : ∀ x ∈ ls, x.length ≤ B) : (ls.map List.length).sum + ls.length ≤ (B + 1) * ls.length := by
  induction ls with
  | nil => simp
  | cons a r ih =>
    have := ih fun x hx => h x (List.mem_cons_of_mem _ hx)
    have h1 := h a List.mem_cons_self
    simp only [List.map_cons, List.sum_cons, List.length_cons, Nat.mul_add, Nat.mul_one] at this ⊢
    lia
noncomputable def run1 (n : Int) : List Nat := List.replicate n.toNat 32 ++ [9]
noncomputable def runsL (ns : List Int) : List Nat := (ns.map run1).flatten
theorem run1_len (n : Int) : (run1 n).length = n.toNat + 1 := by simp [run1]
theorem runs_size {ns : List Int} {B : Nat} (h : ∀ n ∈ ns, n ≤ (B : Int)) (hl : ns.length ≤ 20) (hB : B ≤ 1000) : ((ns.map run1).map List.length).sum + (ns.map run1).length ≤ 100000 := by
  have := sum_len (ls := ns.map run1) (B := B + 1) fun x hx => by
    obtain ⟨n, hn, rfl⟩ := List.mem_map.mp hx
    rw [run1_len]; have := h n hn; lia
  rw [List.length_map] at this ⊢
  have : (B + 1 + 1) * ns.length ≤ 1002 * 20 := Nat.mul_le_mul (by lia) hl
  lia
theorem txs_end {α : Type} {ys vs : List Value} {ns : List α} {f : α → List Nat} (e : vs.length = ns.length) (h : TxsAre ys ((ns.take vs.length).map f)) : TxsAre ys (ns.map f) := by
  rwa [e, List.take_length] at h
noncomputable def Halt (P : Prop) : Prop := P
theorem halt {P : Prop} (h : Halt P) : P := h
end Mine
end
section
open PySem PySem.W PySem.W.X PySem.Calls PyProof.Rows
namespace Mine
section
variable {prog : Program} {w : World} {A : Around} {E : Value → Shared → Prop} {s : Shared} {g : Heap} {L l : Addr} {led : List (Addr × Obj)}
theorem tupAt {its : List Value} {n : Nat} (N : News g L s.heap led) (hq : (l, tupOf its n) ∈ led) : IsTup s.heap l its.toArray := ⟨_, (N _ hq).1, rfl, n, rfl⟩
theorem len_tup {vs : List Value} {n : Nat} {Q : Value → Shared → Prop} (N : News g L s.heap led) (hq : (l, tupOf vs n) ∈ led) (hz : vs.length ≤ 100000)
    (h : ∀ t k, Q (.int (vs.length : Int) t) { s with toks := k }) : wpAny (model prog w) A (call (.builtin "len") [.ref l]) Q E s := by
  refine PyProof.Rows.len_tuple (tupAt N hq) (by rw [List.size_toArray]; lia) ?_
  rw [List.size_toArray]; exact h _ _
theorem len_lst {vs : List Value} {n : Nat} {Q : Value → Shared → Prop} (N : News g L s.heap led) (hq : (l, W.listOf vs.toArray n) ∈ led) (hz : vs.length ≤ 100000)
    (h : ∀ t k, Q (.int (vs.length : Int) t) { s with toks := k }) : wpAny (model prog w) A (call (.builtin "len") [.ref l]) Q E s := by
  refine PyProof.Rows.len_list (listAt N hq) (by rw [List.size_toArray]; lia) ?_
  rw [List.size_toArray]; exact h _ _
theorem idx_pos {k : Int} {n : Nat} (h0 : 0 ≤ k) (h1 : k < n) : seqIndex? k n = some k.toNat := by
  unfold seqIndex?
  split
  · lia
  · simp; lia
theorem item_tup {value slice : Expr} {vs : List Value} {n : Nat} {k : Int} {u : Tok} {x : Value} {Q : Value → Shared → Prop} (N : News g L s.heap led) (hq : (l, tupOf vs n) ∈ led) (h0 : 0 ≤ k) (h1 : k < 100000) (hx : vs[k.toNat]? = some x) (h : Q x s)
    (hs : subscripted slice false (.ref l) (.int k u) = operate [.ref l, .int k u] (getItem (.ref l) (.int k u)) := by with_unfolding_all rfl) :
    wpAny (model prog w) A (subscriptTail value slice (.ref l) (.int k u)) Q E s := by
  have hl : k.toNat < vs.length := by
    rcases Nat.lt_or_ge k.toNat vs.length with h | h
    · exact h
    · rw [List.getElem?_eq_none h] at hx; cases hx
  exact item_tupleT (tupAt N hq) (by lia) (by lia) (idx_pos h0 (by lia)) hx h hs
theorem item_tupI {value slice : Expr} {vs : List Value} {ns : List Int} {n : Nat} {k : Int} {u : Tok} {Q : Value → Shared → Prop} (N : News g L s.heap led) (hq : (l, tupOf vs n) ∈ led) (ia : IntsAre vs ns) (h0 : 0 ≤ k) (h1 : k < ns.length) (h2 : k < 100000)
    (h : ∀ t, Q (.int (ns.getD k.toNat 0) t) s)
    (hs : subscripted slice false (.ref l) (.int k u) = operate [.ref l, .int k u] (getItem (.ref l) (.int k u)) := by with_unfolding_all rfl) :
    wpAny (model prog w) A (subscriptTail value slice (.ref l) (.int k u)) Q E s := by
  obtain ⟨t, ht⟩ := ia.get k.toNat (ns.getD k.toNat 0) (by rw [List.getD_eq_getElem?_getD, List.getElem?_eq_getElem (by lia)]; rfl)
  exact item_tup N hq h0 h2 ht (h t) hs
theorem item_lst {value slice : Expr} {vs : List Value} {n : Nat} {k : Int} {u : Tok} {x : Value} {Q : Value → Shared → Prop} (N : News g L s.heap led) (hq : (l, W.listOf vs.toArray n) ∈ led) (h0 : 0 ≤ k) (h1 : k < 100000) (hx : vs[k.toNat]? = some x) (h : Q x s)
    (hs : subscripted slice false (.ref l) (.int k u) = operate [.ref l, .int k u] (getItem (.ref l) (.int k u)) := by with_unfolding_all rfl) :
    wpAny (model prog w) A (subscriptTail value slice (.ref l) (.int k u)) Q E s :=
  tail_any (listAt N hq).typeIs slot_list_getitem.lookup (wpAny_getItem_list (listAt N hq) h0 (by lia) (x := x) (by simpa using hx) h) hs
theorem item_lstI {value slice : Expr} {vs : List Value} {ns : List Int} {n : Nat} {k : Int} {u : Tok} {Q : Value → Shared → Prop} (N : News g L s.heap led) (hq : (l, W.listOf vs.toArray n) ∈ led) (ia : IntsAre vs ns) (h0 : 0 ≤ k) (h1 : k < ns.length) (h2 : k < 100000)
    (h : ∀ t, Q (.int (ns.getD k.toNat 0) t) s)
    (hs : subscripted slice false (.ref l) (.int k u) = operate [.ref l, .int k u] (getItem (.ref l) (.int k u)) := by with_unfolding_all rfl) :
    wpAny (model prog w) A (subscriptTail value slice (.ref l) (.int k u)) Q E s := by
  obtain ⟨t, ht⟩ := ia.get k.toNat (ns.getD k.toNat 0) (by rw [List.getD_eq_getElem?_getD, List.getElem?_eq_getElem (by lia)]; rfl)
  exact item_lst N hq h0 h2 ht (h t) hs
theorem tuple_lst {m : Str → Option Value} {vs : List Value} {n : Nat} {Q : Value → Shared → Prop} (F : Fr g L s.heap m) (N : News g L s.heap led) (hq : (l, W.listOf vs.toArray n) ∈ led) (hz : vs.length ≤ 10000)
    (h : ∀ D h', Fr g L h' m → News g L h' ((D, tupOf vs 0) :: led) → (∀ p ∈ led, p.1 < D) → Q (.ref D) { s with heap := h' }) : wpAny (model prog w) A (call (.type "tuple") [.ref l]) Q E s :=
  kde_tupleOf F N (listAt N hq) (by rw [List.size_toArray]; lia) (by simp) h
end
structure Ws where
  dx : Addr
  nm : Addr
  ct : Addr
  raw : Str
  n : Int
  nt : Int
  b : Int
  simple : Bool
  vs : List Value
  k1 : Tok
  k2 : Tok
  k3 : Tok
  k4 : Tok
  k5 : Tok
  k6 : Tok
  k7 : Tok
  k8 : Tok
  k9 : Tok
noncomputable abbrev wsT (w : World) (x : Addr) (d : Ws) : List (Addr × Obj) :=
  [(x, instObj 100 d.dx),
   (d.dx, dictOf [{ hash := PyData.keyHash w.params (Str.ofString "raw"), key := .str (Str.ofString "raw") d.k1, val := .str d.raw d.k2 },
     { hash := PyData.keyHash w.params (Str.ofString "n"), key := .str (Str.ofString "n") d.k3, val := .int d.n d.k4 },
     { hash := PyData.keyHash w.params (Str.ofString "nt"), key := .str (Str.ofString "nt") d.k5, val := .int d.nt d.k6 },
     { hash := PyData.keyHash w.params (Str.ofString "norm"), key := .str (Str.ofString "norm") d.k7, val := .ref d.nm },
     { hash := PyData.keyHash w.params (Str.ofString "is_simple"), key := .str (Str.ofString "is_simple") d.k8, val := .bool d.simple }] 5),
   (d.nm, tupOf [.ref d.ct, .int d.b d.k9] 0),
   (d.ct, tupOf d.vs 0)]
end Mine
end
section
open PySem PySem.W PySem.W.X PySem.Calls PyProof.Rows
namespace Mine
theorem take2 {g h : Heap} {L : Addr} {led T rest : List (Addr × Obj)} (N : News g L h led) (nd : Apart (led.map (·.1))) (tk : TakeAll led T rest) : News g L h T ∧ Apart (T.map (·.1)) := by
  have pm := tk.perm
  have nd' : Apart ((T ++ rest).map (·.1)) := (pm.map _).nodup_iff.mp nd
  rw [List.map_append] at nd'
  exact ⟨fun p hp => N p (pm.mem_iff.mpr (List.mem_append_left _ hp)), (List.nodup_append.mp nd').1⟩
section
variable {prog : Program} {w : World} {A : Around} {E : Value → Shared → Prop} {g : Heap} {L : Addr} {env : Env} {x : Str} {px : Pos} {body orelse : List Stmt}
theorem for_str {l : List Nat} {t : Tok} {s : Shared} {Q : Flow → Shared → Prop} {m₀ : Str → Option Value} {T₀ led rest : List (Addr × Obj)} (J : Nat → List (Str × Value) → List (Addr × Obj) → Prop) (V₀ : List (Str × Value))
    (hh : A.handled = none) (hl : ∀ c ∈ l, c < 128)
    (hL : env.locals = L) (hx : env.kindOf x = some .local) (hp : (env.scope.kind == .class || (env.scope.kind == .module && env.locals != env.globals)) = false)
    (F : Fr g L s.heap m₀) (lc : Loc m₀ V₀) (N' : News g L s.heap led) (nd' : Apart (led.map (·.1))) (hJ : J 0 V₀ T₀) (tks : TakeAll led T₀ rest)
    (turn : ∀ i c u m V T h tk I oI (E' : Value → Shared → Prop), i < l.length → l[i]? = some c → J i V T → Fr g L h (over ((x, .str (Tx [c]) u) :: V) m) → News g L h ((I, oI) :: T) → Apart (I :: T.map (·.1)) →
      wpAny (model prog w) A (execs body env) (TurnE g L I oI (J (i + 1)) { s with heap := h, toks := tk } Q) E' { s with heap := h, toks := tk })
    (done : ∀ m V T h tk (E' : Value → Shared → Prop), J l.length V T → Fr g L h (over V m) → News g L h T → Apart (T.map (·.1)) → wpAny (model prog w) A (execs orelse env) Q E' { s with heap := h, toks := tk }) :
    wpAny (model prog w) A (pyIter (.str (Tx l) t)) (fun it s₂ => codeAny (model prog w) A (.forLoop (.Name x px) it body orelse env) (fun r s' => match r with | .ok f => Q f s' | .error e => cameBackBy (model prog w) A env E e s') s₂) E s := by
  obtain ⟨N, nd⟩ := take2 N' nd' tks
  refine wpAny_pyIter_ascii (by simpa [Tx, List.all_eq_true] using hl) ?_
  have up : ∀ (o : Obj) b o', s.heap.get? b = some o' → (s.heap.push o).get? b = some o' := fun _ b o' e => Heap.get?_push_of_some _ e
  refine loop_rule (I := s.heap.objs.size) (S := fun _ => True) (m₀ := m₀) (T₀ := T₀) (V₀ := V₀) (n := l.length) J (show Walks prog w A s.heap.objs.size [s.heap.objs.size] [s.heap.objs.size] l.length (SignAt (Tx l)) (fun i h => h.IsStrIter s.heap.objs.size "str_ascii_iterator" (Tx l) t i) by have := Walks.strAscii (prog := prog) (w := w) hh s.heap.objs.size (Tx l) t; simpa using this) (fun i h st => by obtain ⟨o, e, _⟩ := st; exact ⟨o, e⟩)
    (fun i h h' o nw st e e' _ _ _ => by obtain ⟨o', q, r⟩ := st; rw [e] at q; cases q; exact ⟨o, e', r⟩) hL hx hp
    (by rw [List.mem_singleton]; exact Nat.ne_of_lt F.ns.lt) ⟨_, Heap.get?_push_size _ rfl, rfl, rfl⟩ (F.keeps (up _)) lc (N.grown (up _)) (apart_new N nd) (Nat.ne_of_lt F.ns.lt) (new_none F) hJ (fun _ _ _ _ => trivial) (fun _ => rfl) ?_ ?_
  · rintro i v m V T h tk oI E' hi ⟨c, u, hc, rfl⟩ j F' N' nd'
    exact turn i c u m V T h tk _ oI E' hi (by simpa using hc) j F' N' nd'
  · intro m V T h tk E' j F' N' nd'
    exact done m V T h tk E' j F' N' nd'
theorem for_rangeT {r : Addr} {a b c : Int} {tu tv tw : Tok} {n : Nat} {s : Shared} {Q : Flow → Shared → Prop} {m₀ : Str → Option Value} {T₀ led rest : List (Addr × Obj)} (J : Nat → List (Str × Value) → List (Addr × Obj) → Prop) (V₀ : List (Str × Value))
    (hh : A.handled = none) (hr : IsRange s.heap r a b c tu tv tw) (hsm : Builtin.Range.small a b c = true) (hn : Builtin.Range.rangeSize a b c = ((n : Nat) : Int))
    (hL : env.locals = L) (hx : env.kindOf x = some .local) (hp : (env.scope.kind == .class || (env.scope.kind == .module && env.locals != env.globals)) = false)
    (F : Fr g L s.heap m₀) (l : Loc m₀ V₀) (N' : News g L s.heap led) (nd' : Apart (led.map (·.1))) (hJ : J 0 V₀ T₀) (tks : TakeAll led T₀ rest)
    (turn : ∀ i t m V T h tk I oI (E' : Value → Shared → Prop), i < n → J i V T → Fr g L h (over ((x, .int (a + (i : Int) * c) t) :: V) m) → News g L h ((I, oI) :: T) → Apart (I :: T.map (·.1)) →
      wpAny (model prog w) A (execs body env) (TurnE g L I oI (J (i + 1)) { s with heap := h, toks := tk } Q) E' { s with heap := h, toks := tk })
    (done : ∀ m V T h tk (E' : Value → Shared → Prop), J n V T → Fr g L h (over V m) → News g L h T → Apart (T.map (·.1)) → wpAny (model prog w) A (execs orelse env) Q E' { s with heap := h, toks := tk }) :
    wpAny (model prog w) A (pyIter (.ref r)) (fun it s₂ => codeAny (model prog w) A (.forLoop (.Name x px) it body orelse env) (fun r s' => match r with | .ok f => Q f s' | .error e => cameBackBy (model prog w) A env E e s') s₂) E s := by
  obtain ⟨N, nd⟩ := take2 N' nd' tks
  exact for_range J V₀ hh hr hsm hn hL hx hp F l N nd hJ turn done
theorem turn_next {I : Addr} {oI : Obj} {J : List (Str × Value) → List (Addr × Obj) → Prop} {s : Shared} {Q : Flow → Shared → Prop} {h' : Heap} {tk : Nat} {m : Str → Option Value} {led rest : List (Addr × Obj)} (F : Fr g L h' m) (N : News g L h' led) (nd : Apart (led.map (·.1)))
    (V : List (Str × Value)) (T : List (Addr × Obj)) (j : J V T) (l : Loc m V) (tks : TakeAll led ((I, oI) :: T) rest) : TurnE g L I oI J s Q .next { s with heap := h', toks := tk } := by
  obtain ⟨N', nd'⟩ := take2 N nd tks
  exact ⟨h', tk, m, V, T, rfl, F, l, N', nd', j⟩
theorem turn_cont {I : Addr} {oI : Obj} {J : List (Str × Value) → List (Addr × Obj) → Prop} {s : Shared} {Q : Flow → Shared → Prop} {h' : Heap} {tk : Nat} {m : Str → Option Value} {led rest : List (Addr × Obj)} (F : Fr g L h' m) (N : News g L h' led) (nd : Apart (led.map (·.1)))
    (V : List (Str × Value)) (T : List (Addr × Obj)) (j : J V T) (l : Loc m V) (tks : TakeAll led ((I, oI) :: T) rest) : TurnE g L I oI J s Q .cont { s with heap := h', toks := tk } := by
  obtain ⟨N', nd'⟩ := take2 N nd tks
  exact ⟨h', tk, m, V, T, rfl, F, l, N', nd', j⟩
end
end Mine
end
section
open PySem PySem.W PySem.W.X PySem.Calls PyProof.Rows
namespace Mine
structure WsS where
  cs : List Int
  b : Nat
  n : Nat
  nt : Nat
noncomputable def wsStep (s : WsS) (c : Nat) : WsS :=
  if c = 32 then { s with b := s.b + 1, n := s.n + 1 } else
    let cs' := if s.cs.length ≤ s.b then s.cs ++ List.replicate (s.b - s.cs.length + 1) 0 else s.cs
    { cs := cs'.set s.b (cs'.getD s.b 0 + 1), b := 0, n := s.n + 1, nt := s.nt + 1 }
noncomputable def isWs (c : Nat) : Bool := c == 32 || c == 9
noncomputable def wsOf (l : List Nat) : WsS := (l.takeWhile isWs).foldl wsStep ⟨[], 0, 0, 0⟩
noncomputable def stOf (l : List Nat) (i : Nat) : WsS := (l.take i).foldl wsStep ⟨[], 0, 0, 0⟩
theorem stOf_succ {l : List Nat} {i c : Nat} (h : l[i]? = some c) : stOf l (i + 1) = wsStep (stOf l i) c := by
  unfold stOf
  rw [List.take_add_one, h, List.foldl_append]; rfl
theorem ws_bound (l : List Nat) : ∀ i : Nat, (stOf l i).b ≤ i ∧ (stOf l i).n ≤ i ∧ (stOf l i).nt ≤ i ∧ (stOf l i).cs.length ≤ i
  | 0 => by simp [stOf]
  | i + 1 => by
    have ih := ws_bound l i
    cases h : l[i]? with
    | none =>
      have : stOf l (i + 1) = stOf l i := by unfold stOf; rw [List.take_add_one, h]; simp
      rw [this]; lia
    | some c =>
      rw [stOf_succ h]
      unfold wsStep
      split
      · exact ⟨by dsimp only; lia, by dsimp only; lia, by dsimp only; lia, by dsimp only; lia⟩
      · refine ⟨by dsimp only; lia, by dsimp only; lia, by dsimp only; lia, ?_⟩
        dsimp only
        rw [List.length_set]
        split
        · rw [List.length_append, List.length_replicate]; lia
        · lia
theorem take_while (l : List Nat) : ∀ i : Nat, (∀ c ∈ l.take i, isWs c = true) → (∀ c, l[i]? = some c → isWs c = false) → l.takeWhile isWs = l.take i := by
  induction l with
  | nil => intro i _ _; simp
  | cons a r ih =>
    intro i h k
    cases i with
    | zero => simp at k; simp [List.takeWhile_cons, k]
    | succ i =>
      have ha : isWs a = true := h a (by simp)
      rw [List.takeWhile_cons, ha, List.take_succ_cons]
      simp only [if_true]
      rw [ih i (fun c hc => h c (by simp [hc])) (fun c hc => k c (by simpa using hc))]
theorem wsOf_at {l : List Nat} {i : Nat} (h : ∀ c ∈ l.take i, isWs c = true) (k : ∀ c, l[i]? = some c → isWs c = false) : wsOf l = stOf l i := by
  unfold wsOf stOf
  rw [take_while l i h k]
theorem all_succ {l : List Nat} {i c : Nat} (h : ∀ c ∈ l.take i, isWs c = true) (hc : l[i]? = some c) (k : isWs c = true) : ∀ c ∈ l.take (i + 1), isWs c = true := by
  intro d hd
  rw [List.take_add_one, hc] at hd
  rcases List.mem_append.mp hd with hd | hd
  · exact h d hd
  · simp at hd; rw [hd]; exact k
structure WsOk (l : List Nat) (d : Ws) : Prop where
  vs : IntsAre d.vs (wsOf l).cs
  n : d.n = (wsOf l).n
  nt : d.nt = (wsOf l).nt
  b : d.b = (wsOf l).b
  simple : d.simple = decide ((wsOf l).cs.length ≤ 1)
theorem is_sp {c : Nat} (h : (Tx [c] == Str.ofString " ") = true) : c = 32 := by
  rw [of_sp] at h
  have := eq_of_beq h
  simpa [Tx] using this
theorem not_sp {c : Nat} (h : (Tx [c] == Str.ofString " ") = false) : c ≠ 32 := by
  rintro rfl
  rw [of_sp] at h
  simp at h
theorem is_tab {c : Nat} (h : (Tx [c] == Str.ofString "\t") = true) : c = 9 := by
  rw [of_tab] at h
  have := eq_of_beq h
  simpa [Tx] using this
theorem not_tab {c : Nat} (h : (Tx [c] == Str.ofString "\t") = false) : c ≠ 9 := by
  rintro rfl
  rw [of_tab] at h
  simp at h
theorem ints_cast {vs : List Value} {a b : List Int} (h : IntsAre vs a) (e : a = b) : IntsAre vs b := e ▸ h
theorem flatZ {α : Type} (c : α) : ∀ n : Nat, (List.replicate n [c]).flatten = List.replicate n c
  | 0 => rfl
  | k + 1 => by rw [List.replicate_succ, List.flatten_cons, flatZ c k, List.replicate_succ]; rfl
theorem ws_grow {s : WsS} {c : Nat} (hc : c = 9) (h : (s.cs.length : Int) ≤ s.b) :
    (s.cs ++ (List.replicate ((s.b : Int) - s.cs.length + 1).toNat [(0 : Int)]).flatten).set (s.b : Int).toNat ((s.cs ++ (List.replicate ((s.b : Int) - s.cs.length + 1).toNat [(0 : Int)]).flatten).getD (s.b : Int).toNat 0 + 1) = (wsStep s c).cs := by
  subst hc
  have h' : s.cs.length ≤ s.b := by lia
  rw [flatZ, show ((s.b : Int) - s.cs.length + 1).toNat = s.b - s.cs.length + 1 by lia, Int.toNat_natCast]
  unfold wsStep
  rw [if_neg (by decide)]
  dsimp only
  rw [if_pos h']
theorem ws_stay {s : WsS} {c : Nat} (hc : c = 9) (h : ¬ (s.cs.length : Int) ≤ s.b) :
    s.cs.set (s.b : Int).toNat (s.cs.getD (s.b : Int).toNat 0 + 1) = (wsStep s c).cs := by
  subst hc
  have h' : ¬ s.cs.length ≤ s.b := by lia
  rw [Int.toNat_natCast]
  unfold wsStep
  rw [if_neg (by decide)]
  dsimp only
  rw [if_neg h']
theorem ws_tab (s : WsS) : (wsStep s 9).b = 0 ∧ (wsStep s 9).n = s.n + 1 ∧ (wsStep s 9).nt = s.nt + 1 := ⟨rfl, rfl, rfl⟩
theorem ws_sp (s : WsS) : (wsStep s 32).b = s.b + 1 ∧ (wsStep s 32).n = s.n + 1 ∧ (wsStep s 32).nt = s.nt ∧ (wsStep s 32).cs = s.cs := ⟨rfl, rfl, rfl, rfl⟩
noncomputable def ilTo (ts : Nat) (cs : List Int) : Nat → Int
  | 0 => 0
  | j + 1 => ilTo ts cs j + ((ts : Int) + (j : Int) * 1).fdiv ts * cs.getD (ts + j) 0
theorem rg_small {a b : Int} (h1 : -1000000 ≤ a) (h2 : a ≤ 1000000) (h3 : -1000000 ≤ b) (h4 : b ≤ 1000000) : Builtin.Range.small a b 1 = true := by
  have hn := rangeSize_one a b
  have : 0 ≤ Builtin.Range.rangeSize a b 1 ∧ Builtin.Range.rangeSize a b 1 ≤ 2000000 := by rw [hn]; split <;> lia
  unfold Builtin.Range.small Builtin.Range.rangeFitsLong
  simp only [Bool.and_eq_true, Bool.or_eq_true, beq_iff_eq, decide_eq_true_eq, show ((1 : Int) > 0) = True from by simp, if_true]
  refine ⟨⟨⟨⟨?_, ?_⟩, ?_⟩, ?_⟩, .inr ?_⟩ <;> (first | lia | decide)
theorem rg_size {a b : Int} {n : Nat} (h : (n : Int) = if a < b then b - a else 0) : Builtin.Range.rangeSize a b 1 = (n : Int) := by rw [rangeSize_one, h]
theorem il_fac {ts i : Nat} (h : 1 ≤ ts) (hi : i ≤ 400) : 0 ≤ ((ts : Int) + (i : Int) * 1).fdiv ts ∧ ((ts : Int) + (i : Int) * 1).fdiv ts ≤ 401 := by
  rw [Int.fdiv_eq_ediv_of_nonneg _ (by lia)]
  refine ⟨Int.ediv_nonneg (by lia) (by lia), ?_⟩
  have := Int.ediv_le_ediv (a := (ts : Int) + i * 1) (b := 401 * (ts : Int)) (c := ts) (by lia) (by
    have : (400 : Int) * 1 ≤ 400 * (ts : Int) := Int.mul_le_mul_of_nonneg_left (by lia) (by lia)
    lia)
  rwa [Int.mul_ediv_cancel _ (by lia)] at this
end Mine
end
section
open PySem PySem.W PySem.W.X PySem.Calls PyProof.Rows
namespace Mine
noncomputable def mx (a b : Int) : Int := if b > a then b else a
noncomputable def longB (b : Int) (k : Nat) : Int := mx ((k : Int) - 1) b
theorem longB_le {b : Int} {k : Nat} (h0 : 0 ≤ b) (hb : b ≤ 300) (hk : k ≤ 300) : 0 ≤ longB b k ∧ longB b k ≤ 300 := by
  unfold longB mx; split <;> lia
noncomputable def ilB (ts : Nat) (b nt : Int) (cs : List Int) : Int := b + ts * (ilTo ts cs (cs.length - ts) + nt)
noncomputable def lessB (n nt b : Int) (simple : Bool) (cs : List Int) (n' nt' b' : Int) (simple' : Bool) (es : List Int) : Bool :=
  if n' ≤ n then false else if (simple && simple') = true then decide (nt ≤ nt') else
  (List.range ((mx (longB b cs.length) (longB b' es.length)).toNat)).all fun j => !decide (ilB (2 + j) b' nt' es ≤ ilB (2 + j) b nt cs)
theorem range_all_take {p : Nat → Bool} {N : Nat} (h : ∀ j < N, p j = true) : (List.range N).all p = true := by
  rw [List.all_eq_true]; intro j hj; exact h j (List.mem_range.mp hj)
theorem range_all_not {p : Nat → Bool} {N i : Nat} (hi : i < N) (h : p i = false) : (List.range N).all p = false := by
  rw [List.all_eq_false]; exact ⟨i, List.mem_range.mpr hi, by simp [h]⟩
end Mine
end
section
open PySem PySem.W PySem.W.X PySem.Calls PyProof.Rows
namespace Mine
noncomputable def Rd (led : List (Addr × Obj)) (v : Value) (d : PyData) : Prop := ∀ h : Heap, (∀ p ∈ led, h.get? p.1 = some p.2) → ∃ as, Reads h v d as
noncomputable def RdA (led : List (Addr × Obj)) (vs : List Value) (ds : List PyData) : Prop := ∀ h : Heap, (∀ p ∈ led, h.get? p.1 = some p.2) → ∃ as, ReadsAll h vs ds as
section
variable {led led' : List (Addr × Obj)} {a : Addr} {vs : List Value} {ds : List PyData} {n : Nat} {v : Value} {d : PyData}
theorem Rd.int (i : Int) (t : Tok) : Rd led (.int i t) (.int i) := fun _ _ => ⟨_, .int i t⟩
theorem Rd.str (x : Str) (t : Tok) : Rd led (.str x t) (.str x) := fun _ _ => ⟨_, .str x t⟩
theorem Rd.bool (b : Bool) : Rd led (.bool b) (.bool b) := fun _ _ => ⟨_, .bool b⟩
theorem RdA.nil : RdA led [] [] := fun _ _ => ⟨_, .nil⟩
theorem RdA.cons (h : Rd led v d) (k : RdA led vs ds) : RdA led (v :: vs) (d :: ds) := fun hp e => by
  obtain ⟨_, r⟩ := h hp e; obtain ⟨_, q⟩ := k hp e; exact ⟨_, .cons r q⟩
theorem readsAll_app {h : Heap} {v : Value} {d : PyData} {bs : List Addr} (q : Reads h v d bs) : ∀ {vs : List Value} {ds : List PyData} {as : List Addr}, ReadsAll h vs ds as → ∃ cs, ReadsAll h (vs ++ [v]) (ds ++ [d]) cs
  | _, _, _, .nil => ⟨_, .cons q .nil⟩
  | _, _, _, .cons x r => by obtain ⟨_, y⟩ := readsAll_app q r; exact ⟨_, .cons x y⟩
theorem RdA.snoc (k : RdA led vs ds) (h : Rd led v d) : RdA led (vs ++ [v]) (ds ++ [d]) := fun hp e => by
  obtain ⟨_, q⟩ := h hp e; obtain ⟨as, k⟩ := k hp e
  exact readsAll_app q k
theorem Rd.list (m : (a, W.listOf vs.toArray n) ∈ led) (h : RdA led vs ds) : Rd led (.ref a) (.list ds) := fun hp e => by
  obtain ⟨_, r⟩ := h hp e; exact ⟨_, .list (e _ m) rfl rfl (by simpa using r)⟩
theorem Rd.tup (m : (a, tupOf vs n) ∈ led) (h : RdA led vs ds) : Rd led (.ref a) (.tuple ds) := fun hp e => by
  obtain ⟨_, r⟩ := h hp e; exact ⟨_, .tuple (e _ m) rfl rfl (by simpa using r)⟩
theorem RdA.ints {ns : List Int} (h : IntsAre vs ns) : RdA led vs (ns.map .int) := by
  induction h with
  | nil => exact .nil
  | cons i t _ ih => exact .cons (.int i t) ih
theorem RdA.strs {ns : List Str} (h : StrsAre vs ns) : RdA led vs (ns.map .str) := by
  induction h with
  | nil => exact .nil
  | cons i t _ ih => exact .cons (.str i t) ih
theorem RdA.mono (h : RdA led vs ds) (k : ∀ p ∈ led, p ∈ led') : RdA led' vs ds := fun hp e => h hp fun p hp => e p (k p hp)
theorem Rd.mono (h : Rd led v d) (k : ∀ p ∈ led, p ∈ led') : Rd led' v d := fun hp e => h hp fun p hp => e p (k p hp)
end
theorem canLay_app : ∀ a b : List PyData, PyData.canLayAll0 (a ++ b) = (PyData.canLayAll0 a && PyData.canLayAll0 b)
  | [], b => by simp [PyData.canLayAll0]
  | x :: a, b => by simp [PyData.canLayAll0, canLay_app a b, Bool.and_assoc]
noncomputable def Sh (k : Nat) (d : PyData) : Prop := d.canLay0 = true ∧ d.depth ≤ k
noncomputable def ShA (k : Nat) (ds : List PyData) : Prop := PyData.canLayAll0 ds = true ∧ PyData.depthAll ds ≤ k
theorem Sh.int (i : Int) {k : Nat} : Sh k (.int i) := ⟨by simp [PyData.canLay0], by simp [PyData.depth]⟩
theorem Sh.bool (i : Bool) {k : Nat} : Sh k (.bool i) := ⟨by simp [PyData.canLay0], by simp [PyData.depth]⟩
theorem Sh.str {l : List Nat} (h : ∀ c ∈ l, c < 128) {k : Nat} : Sh k (.str (Tx l)) := ⟨by
  simp only [PyData.canLay0, PyData.strOk]
  rw [Array.all_eq_true']
  intro c hc
  have := h c (by simpa using hc)
  simp; lia, by simp [PyData.depth]⟩
theorem ShA.nil {k : Nat} : ShA k [] := ⟨rfl, by simp [PyData.depthAll]⟩
theorem ShA.cons {k : Nat} {d : PyData} {ds : List PyData} (h : Sh k d) (q : ShA k ds) : ShA k (d :: ds) := ⟨by simp [PyData.canLayAll0, h.1, q.1], by simp only [PyData.depthAll]; have := h.2; have := q.2; lia⟩
theorem ShA.all {k : Nat} {ds : List PyData} (h : ∀ d ∈ ds, Sh k d) : ShA k ds := by
  induction ds with
  | nil => exact .nil
  | cons d r ih => exact .cons (h d List.mem_cons_self) (ih fun e he => h e (List.mem_cons_of_mem _ he))
theorem Sh.list {k : Nat} {ds : List PyData} (h : ShA k ds) : Sh (k + 1) (.list ds) := ⟨by simp [PyData.canLay0, h.1], by simp only [PyData.depth]; have := h.2; lia⟩
theorem Sh.tup {k : Nat} {ds : List PyData} (h : ShA k ds) : Sh (k + 1) (.tuple ds) := ⟨by simp [PyData.canLay0, h.1], by simp only [PyData.depth]; have := h.2; lia⟩
theorem Sh.ok {k : Nat} {d : PyData} (h : Sh k d) (hk : k ≤ 64) : SeqAt.shaped d = true := by simp only [SeqAt.shaped, h.1, Bool.true_and, decide_eq_true_eq]; have := h.2; lia
theorem ShA.ints (ns : List Int) {k : Nat} : ShA k (ns.map .int) := .all fun d hd => by obtain ⟨i, _, rfl⟩ := List.mem_map.mp hd; exact .int i
theorem ShA.txs {ls : List (List Nat)} (h : ∀ l ∈ ls, ∀ c ∈ l, c < 128) {k : Nat} : ShA k ((ls.map Tx).map .str) := .all fun d hd => by
  obtain ⟨i, hi, rfl⟩ := List.mem_map.mp hd
  obtain ⟨l, hl, rfl⟩ := List.mem_map.mp hi
  exact .str (h l hl)
theorem eqv_strs : ∀ ns ms : List Str, PyData.eqvAll (ns.map PyData.str) (ms.map PyData.str) = decide (ns = ms)
  | [], [] => by simp [PyData.eqvAll]
  | [], _ :: _ => by simp [PyData.eqvAll]
  | _ :: _, [] => by simp [PyData.eqvAll]
  | a :: r, b :: t => by
    simp only [List.map_cons, PyData.eqvAll, PyData.eqv, eqv_strs r t]
    by_cases h : a = b <;> by_cases h' : r = t <;> simp [h, h']
theorem tx_inj {a b : List Nat} (h : Tx a = Tx b) : a = b := by
  have := congrArg (fun s : Str => s.cps.toList) h
  simpa [Tx] using this
theorem txs_inj : ∀ {a b : List (List Nat)}, a.map Tx = b.map Tx → a = b
  | [], [], _ => rfl
  | [], _ :: _, h => by simp at h
  | _ :: _, [], h => by simp at h
  | x :: a, y :: b, h => by
    simp only [List.map_cons, List.cons.injEq] at h
    rw [tx_inj h.1, txs_inj h.2]
theorem eqv_txs (ns ms : List (List Nat)) : PyData.eqvAll ((ns.map Tx).map PyData.str) ((ms.map Tx).map PyData.str) = decide (ns = ms) := by
  rw [eqv_strs]
  exact decide_eq_decide.mpr ⟨txs_inj, fun h => by rw [h]⟩
section
variable {prog : Program} {w : World} {A : Around} {E : Value → Shared → Prop} {s : Shared} {g : Heap} {L : Addr} {led : List (Addr × Obj)} {a b : Value} {da db : PyData} {Q : Value → Shared → Prop}
theorem eq_rd (N : News g L s.heap led) (ra : Rd led a da) (rb : Rd led b db) (ha : Sh 3 da) (hb : Sh 3 db) (hu : A.units + 64 < cLine) (h : Q (.bool (PyData.eqv da db)) s) : wpAny (model prog w) A (compareOp .Eq a b) Q E s := by
  obtain ⟨_, x⟩ := ra s.heap fun p hp => (N p hp).1
  obtain ⟨_, y⟩ := rb s.heap fun p hp => (N p hp).1
  exact eq_dataH x y (ha.ok (by decide)) (hb.ok (by decide)) hu h
theorem ne_rd (N : News g L s.heap led) (ra : Rd led a da) (rb : Rd led b db) (ha : Sh 3 da) (hb : Sh 3 db) (hu : A.units + 64 < cLine) (h : Q (.bool (!PyData.eqv da db)) s) : wpAny (model prog w) A (compareOp .NotEq a b) Q E s := by
  obtain ⟨_, x⟩ := ra s.heap fun p hp => (N p hp).1
  obtain ⟨_, y⟩ := rb s.heap fun p hp => (N p hp).1
  exact ne_dataH x y (ha.ok (by decide)) (hb.ok (by decide)) hu h
end
theorem neWs : Nonempty Ws := ⟨by constructor <;> first | exact 0 | exact [] | exact default | exact true⟩
end Mine
end
section
open PySem PySem.W PyProof.Rows Builtin Builtin.ObjectAttr
namespace Mine
theorem slot_fga : Slot "function" "__getattribute__" "object.__getattribute__" :=
  .of (owner := "object") (n := "__getattribute__") (by rw [typeLookup_type, builtinLookup_eq_fast]; kernel_rfl) (by decide +kernel) (by decide +kernel) (by decide +kernel)
    (by first | exact .inl (by decide +kernel) | exact .inr (by decide +kernel)) (by rw [isSubtype_type]; kernel_rfl)
theorem slot_fsa : Slot "function" "__setattr__" "object.__setattr__" :=
  .of (owner := "object") (n := "__setattr__") (by rw [typeLookup_type, builtinLookup_eq_fast]; kernel_rfl) (by decide +kernel) (by decide +kernel) (by decide +kernel)
    (by first | exact .inl (by decide +kernel) | exact .inr (by decide +kernel)) (by rw [isSubtype_type]; kernel_rfl)
theorem entry_fga : entryFor table "object.__getattribute__" = some Builtin.«object.__getattribute__» := entryFor_of_tree (by kernel_rfl)
theorem entry_fsa : entryFor table "object.__setattr__" = some Builtin.«object.__setattr__» := entryFor_of_tree (by kernel_rfl)
theorem args_fga (a b : Value) : argsOk "object.__getattribute__" ⟨[a, b], []⟩ := by unfold argsOk; kernel_rfl
theorem args_fsa (a b c : Value) : argsOk "object.__setattr__" ⟨[a, b, c], []⟩ := by unfold argsOk; kernel_rfl
theorem fn_noga : typeLookup (.type "function") "__getattr__" = pure none := by rw [typeLookup_type, builtinLookup_eq_fast]; kernel_rfl
theorem fn_read : typeLookup (.type "function") (Str.ofString "read") = pure none := by rw [typeLookup_type, builtinLookup_eq_fast]; kernel_rfl
theorem fn_mro : mroOf (.type "function") = pure [.type "function", .type "object"] := by rw [mroOf_type]; kernel_rfl
theorem fn_hasDict : typeHasDict (.type "function") = true := by decide +kernel
theorem fn_canon : (Manifest.canonical "object.__getattribute__" != "object.__getattribute__") = false := by decide +kernel
section
variable {prog : Program} {w : World} {A : Around} {E : Value → Shared → Prop} {h : Heap} {g : Array GenState} {d : Drawn} {t : Nat} {os : OsState} {f D : Addr} {o : Obj} {fd : FuncData} {mD : Str → Option Value} {r : Addr}
theorem fn_get_entry {tk : Tok} {sl : Array (Option Value)} {Q : Fin → Shared → Prop} (hx : h.get? f = some ⟨.type "function", some D, .func fd, sl⟩) (hn : h.Ns D mD) (hv : mD (Str.ofString "read") = some (.ref r)) (hq : Q (.done (.ret (.ref r))) ⟨h, g, d, t, os⟩) :
    wpAny (model prog w) A (Builtin.«object.__getattribute__» ⟨[.ref f, .str (Str.ofString "read") tk], []⟩) Q E ⟨h, g, d, t, os⟩ := by
  have hT : (⟨h, g, d, t, os⟩ : Shared).TypeIs (.ref f) "function" := ⟨_, hx, rfl⟩
  have f4 := fn_read
  repeat (any_goals (first | assumption | ((with_reducible refine wpAny_nsGet hn ?_); rw [hv]) | wp_step))
theorem fn_getAttr {b : Bool} {sl : Array (Option Value)} {Q : Value → Shared → Prop} (hx : h.get? f = some ⟨.type "function", some D, .func fd, sl⟩) (hn : h.Ns D mD) (hv : mD (Str.ofString "read") = some (.ref r)) (hq : ∀ tk, Q (.ref r) ⟨h, g, d, tk, os⟩) :
    wpAny (model prog w) A (getAttr (.ref f) (Str.ofString "read") b) Q E ⟨h, g, d, t, os⟩ := by
  have hT : ∀ tk', (⟨h, g, d, tk', os⟩ : Shared).TypeIs (.ref f) "function" := fun _ => ⟨_, hx, rfl⟩
  have f3 := slot_fga.lookup
  have f4 := slot_fga.bind (.ref f)
  have f5 := fn_noga
  unfold getAttr getAttrBy
  repeat (any_goals (first | assumption | exact hT _ | wp_step))
  rw [show (b && onTheHeap (Value.builtin "object.__getattribute__")) = false from by cases b <;> rfl, if_neg (by decide)]
  unfold boundAndCalled
  have hE := entry_fga
  refine wpAny_bind (wpAny_of_eq f4 ?_)
  refine wpAny_call_entry slot_fga (hT _) entry_fga ?_ (args_fga _ _)
  refine fn_get_entry hx hn hv ⟨_, rfl, ?_⟩
  repeat (any_goals (first | assumption | exact hq _ | wp_step))
theorem fn_getMethod {pl : Sem Bool} {sl : Array (Option Value)} {Q : Value × List Value → Shared → Prop} (hx : h.get? f = some ⟨.type "function", some D, .func fd, sl⟩) (hn : h.Ns D mD) (hv : mD (Str.ofString "read") = some (.ref r)) (hq : ∀ tk, Q (.ref r, []) ⟨h, g, d, tk, os⟩) :
    wpAny (model prog w) A (getMethod (.ref f) (Str.ofString "read") pl) Q E ⟨h, g, d, t, os⟩ := by
  have hT : ∀ tk', (⟨h, g, d, tk', os⟩ : Shared).TypeIs (.ref f) "function" := fun _ => ⟨_, hx, rfl⟩
  unfold getMethod
  refine wpAny_bind (wpAny_specialOf (hT _) slot_fga.lookup ?_)
  show wpAny _ A (if (Manifest.canonical "object.__getattribute__" != "object.__getattribute__") = true then _ else _) Q E _
  rw [fn_canon, if_neg Bool.false_ne_true]
  refine wpAny_bind (wpAny_specialOf (hT _) fn_noga ?_)
  refine wpAny_bind (wpAny_specialOf (hT _) fn_read ?_)
  exact wpAny_bind (fn_getAttr hx hn hv fun tk => wpAny_pure (hq tk))
end
end Mine
end
section
open PySem PySem.W PyProof.Rows PyProof.Rows.LCg PyProof.Rows.LCt Builtin Builtin.ObjectAttr
namespace Mine
section
variable {prog : Program} {w : World} {A : Around} {E : Value → Shared → Prop} {h : Heap} {g : Array GenState} {d : Drawn} {t : Nat} {os : OsState} {f D : Addr} {fd : FuncData} {v : Value} {sl : Array (Option Value)}
theorem fn_refuse (self : Value) : refuseLoop self "__setattr__" [.type "function", .type "object"] = pure () := by
  unfold refuseLoop
  kernel_rfl
theorem fn_set_entry {tk : Tok} {Q : Fin → Shared → Prop} (hx : h.get? f = some ⟨.type "function", none, .func fd, sl⟩)
    (hq : ∀ h' tk' oD, h'.get? f = some ⟨.type "function", some h.objs.size, .func fd, sl⟩ → h'.get? h.objs.size = some oD → NsObj oD (fun y => if y = Str.ofString "read" then some v else none) → (∀ b o, b ≠ f → h.get? b = some o → h'.get? b = some o) → h.objs.size < h'.objs.size → Q (.done (.ret .none)) ⟨h', g, d, tk', os⟩) :
    wpAny (model prog w) A (Builtin.«object.__setattr__» ⟨[.ref f, .str (Str.ofString "read") tk, v], []⟩) Q E ⟨h, g, d, t, os⟩ := by
  have hT : (⟨h, g, d, t, os⟩ : Shared).TypeIs (.ref f) "function" := ⟨_, hx, rfl⟩
  have f4 := fn_read
  have hm := fn_mro
  have hp := fn_refuse (.ref f)
  unfold Builtin.«object.__setattr__»
  iterate 20 (any_goals (first | assumption | rw [refuse_eq] | (rw [hp]) | (with_reducible refine wpAny_loadPart_at hx ?_) | wp_step))
  unfold storeInOwnDict
  refine wpAny_bind (m := ownStreamTells _ _) ?_
  have ho : ownStreamTells (.ref f) (.type "function") = pure () := rfl
  rw [ho]
  refine wpAny_pure ?_
  rw [if_neg (show ¬ ((Value.type "function" == Value.type "module") = true) from by decide)]
  refine wpAny_bind (m := ownDictForStores _) ?_
  show wpAny _ _ (instanceDict f true) _ _ _
  unfold instanceDict
  refine wpAny_bind (wpAny_loadPart_at hx ?_)
  dsimp only
  rw [fn_hasDict]
  simp only [Bool.not_true, Bool.or_self, Bool.false_eq_true, if_false]
  refine wpAny_bind (wpAny_alloc' ?_)
  have hx₁ : (h.push { cls := .type "dict", data := .dict #[] }).get? f = some _ := Heap.get?_push_of_some _ hx
  have hxs : f ≠ h.objs.size := Nat.ne_of_lt (Heap.lt_size hx)
  refine wpAny_bind (wpAny_update' hx₁ ?_)
  have hd : dictMade (.type "function") f h.objs.size = pure (some h.objs.size) := by
    unfold dictMade
    have e : finalisedInACycleAlone "function" = false := by decide +kernel
    dsimp only
    rw [if_neg (by rw [e]; exact Bool.false_ne_true)]
  rw [hd]
  refine wpAny_pure ?_
  show wpAny _ _ (storeInDict h.objs.size (.str (Str.ofString "read") tk) (Str.ofString "read") v) _ _ _
  unfold storeInDict newKeyGuard
  have hgd : ((h.push { cls := .type "dict", data := .dict #[] }).update f fun o => { cls := o.cls, dict := some h.objs.size, data := o.data, slots := o.slots }).get? h.objs.size
      = some { cls := .type "dict", data := .dict #[] } :=
    (Heap.get?_update_ne _ _ _ _ hxs.symm).trans (Heap.get?_push_at rfl rfl)
  have hnd : ((h.push { cls := .type "dict", data := .dict #[] }).update f fun o => { cls := o.cls, dict := some h.objs.size, data := o.data, slots := o.slots }).Ns h.objs.size (fun _ => none) :=
    ⟨_, #[], _, hgd, rfl, fun e he => absurd he (by simp), fun _ => rfl⟩
  refine wpAny_bind (wpAny_pure (wpAny_bind (wpAny_nsSet1 (Heap.Ns1.of_empty hnd) fun h' hn' hs => ?_)))
  obtain ⟨oD, esD, epD, hoD, hdD, hcD⟩ := hn'.count (Within.cons (Str.ofString "read") v Within.nil)
  refine wpAny_bind (wpAny_lookBehind hoD (by rw [hdD]; exact pastItsLine_dict (Nat.le_trans hcD (by rw [List.length_cons, List.length_nil, sizeLine_eq]; lia))) ?_)
  refine wpAny_pure ?_
  have hx' : h'.get? f = some ⟨.type "function", some h.objs.size, .func fd, sl⟩ := by
    refine (hs.2 f hxs).trans (Heap.get?_update_self _ hx₁ ?_)
    rfl
  obtain ⟨oD', hoD', hnD'⟩ := ns_obj hn'.ns
  refine hq h' _ oD' hx' hoD' hnD' (fun b ob hbx hb => ?_) (Heap.lt_size hoD')
  exact (hs.2 b (Nat.ne_of_lt (Heap.lt_size hb))).trans ((Heap.get?_update_ne _ _ _ _ hbx).trans (Heap.get?_push_of_some _ hb))
theorem fn_setAttr {Q : Unit → Shared → Prop} (hx : h.get? f = some ⟨.type "function", none, .func fd, sl⟩)
    (hq : ∀ h' tk' oD, h'.get? f = some ⟨.type "function", some h.objs.size, .func fd, sl⟩ → h'.get? h.objs.size = some oD → NsObj oD (fun y => if y = Str.ofString "read" then some v else none) → (∀ b o, b ≠ f → h.get? b = some o → h'.get? b = some o) → h.objs.size < h'.objs.size → Q () ⟨h', g, d, tk', os⟩) :
    wpAny (model prog w) A (setAttr (.ref f) (Str.ofString "read") v) Q E ⟨h, g, d, t, os⟩ := by
  have hT : ∀ tk', (⟨h, g, d, tk', os⟩ : Shared).TypeIs (.ref f) "function" := fun _ => ⟨_, hx, rfl⟩
  unfold setAttr
  refine wpAny_bind (wpAny_mkText ?_)
  refine wpAny_bind (wpAny_callSpecial?_slot (name := Str.ofString "__setattr__") (hT _) slot_fsa (wpAny_call_entry slot_fsa (hT _) entry_fsa ?_ (args_fsa _ _ _)))
  refine fn_set_entry hx fun h' tk' oD a b c d e => ⟨_, rfl, wpAny_pure (hq h' tk' oD a b c d e)⟩
end
end Mine
end
section
open PySem PySem.W PySem.W.X PySem.Calls PyProof.Rows PyProof.Rows.LCg PyProof.Rows.LCt
namespace Mine
section
variable {prog : Program} {w : World} {A : Around} {E : Value → Shared → Prop} {s : Shared} {g : Heap} {L f : Addr} {m : Str → Option Value} {led : List (Addr × Obj)} {G : Obj → List (Addr × Obj)} {fd : FuncData} {sl : Array (Option Value)} {v : Value}
theorem kfa_set {Q : Unit → Shared → Prop} (F : Fr g L s.heap m) (N : News g L s.heap led) (U : UpdF f ⟨.type "function", none, .func fd, sl⟩ led G)
    (h : ∀ D oD h' tk, Fr g L h' m → News g L h' ((D, oD) :: G ⟨.type "function", some D, .func fd, sl⟩) → NsObj oD (fun y => if y = Str.ofString "read" then some v else none) → (∀ p ∈ led, p.1 < D) → Q () { s with heap := h', toks := tk }) :
    wpAny (model prog w) A (setAttr (.ref f) (Str.ofString "read") v) Q E s := by
  obtain ⟨own, rest, rfl, hgr, h1, h2⟩ := U.split
  have hm := N (f, _) (List.mem_append_right _ (.head _))
  obtain ⟨hp, gg, d, t, os⟩ := s
  refine fn_setAttr hm.1 fun h' tk' oD e1 e2 e3 e4 e5 => ?_
  have hL := F.ns.lt
  refine h hp.objs.size oD h' tk' ⟨?_, fun b o e => e4 b o (fun q => by rw [q, hm.2.2] at e; cases e) (F.keep b o e), F.above⟩ ?_ e3 (fun p hp => Heap.lt_size (N p hp).1)
  · obtain ⟨o, es, ep, a, b⟩ := F.ns
    exact ⟨o, es, ep, e4 L o hm.2.1.symm a, b⟩
  · rw [hgr]
    intro p hq
    rcases List.mem_cons.mp hq with rfl | hq
    · exact ⟨e2, (Nat.ne_of_lt hL).symm, Heap.get?_none_of_le (Nat.le_trans F.above (Nat.le_of_lt hL))⟩
    · rcases List.mem_append.mp hq with hq | hq
      · have := N p (List.mem_append_left _ hq)
        exact ⟨e4 _ _ (h1 p hq) this.1, this.2⟩
      · rcases List.mem_cons.mp hq with rfl | hq
        · exact ⟨e1, hm.2⟩
        · have := N p (List.mem_append_right _ (List.mem_cons_of_mem _ hq))
          exact ⟨e4 _ _ (h2 p hq) this.1, this.2⟩
theorem kfa_get {D r : Addr} {oD : Obj} {pl : Sem Bool} {mD : Str → Option Value} {Q : Value × List Value → Shared → Prop} (N : News g L s.heap led) (h1 : (f, ⟨.type "function", some D, .func fd, sl⟩) ∈ led) (h2 : (D, oD) ∈ led) (h3 : NsObj oD mD) (hv : mD (Str.ofString "read") = some (.ref r))
    (h : ∀ tk, Q (.ref r, []) { s with toks := tk }) : wpAny (model prog w) A (getMethod (.ref f) (Str.ofString "read") pl) Q E s := by
  obtain ⟨hp, gg, d, t, os⟩ := s
  exact fn_getMethod (N _ h1).1 (h3.ns (N _ h2).1) hv h
end
end Mine
end
section
open PySem PySem.W PySem.W.X PySem.Calls PyProof.Rows PyProof.Rows.LCg PyProof.Rows.LCt
namespace Mine
theorem carried_txs : ∀ {ys : List Value} {l : List Nat}, CarriedAll ys ((signs (Tx l)).map .str) → TxsAre ys (l.map fun c => [c])
  | _, [], h => by
    simp only [signs, List.map_nil] at h
    cases h; exact .nil
  | _, c :: r, h => by
    simp only [signs, List.map_cons] at h
    cases h with
    | cons a b =>
      cases a with
      | str x t =>
        exact .cons _ _ (carried_txs (l := r) (by simpa [signs] using b))
section
variable {prog : Program} {w : World} {A : Around} {E : Value → Shared → Prop} {s : Shared} {g : Heap} {L f : Addr} {m : Str → Option Value} {led : List (Addr × Obj)} {Q : Value → Shared → Prop}
theorem list_text {l : List Nat} {t : Tok} (hh : A.handled = none) (F : Fr g L s.heap m) (N : News g L s.heap led) (hl : l.length ≤ 10000)
    (h : ∀ D ys n h' tk, Fr g L h' m → News g L h' ((D, W.listOf ys.toArray n) :: led) → (∀ p ∈ led, p.1 < D) → TxsAre ys (l.map fun c => [c]) → Q (.ref D) { s with heap := h', toks := tk }) :
    wpAny (model prog w) A (call (.type "list") [.str (Tx l) t]) Q E s := by
  refine list_strD hh F N (fun h' tk ys F' N' k hn il np hc => ?_) (by rw [tx_len]; exact Nat.le_trans hl (by decide))
  obtain ⟨⟨n, e⟩, hne⟩ := np
  refine h s.heap.objs.size ys n h' tk F' (fun p hp => ?_) (fun p hp => Heap.lt_size (N p hp).1) (carried_txs hc)
  rcases List.mem_cons.mp hp with rfl | hp
  · exact ⟨e, (Nat.ne_of_lt F.ns.lt).symm, hn⟩
  · exact N' p hp
end
end Mine
end
section
open PySem PySem.W PySem.W.X PySem.Calls PyProof.Rows PyProof.Rows.LCg PyProof.Rows.LCt
namespace Mine
theorem cls_spec {w : World} {d : Nat} {C fI : Addr} {pos : List Value} {T rest led : List (Addr × Obj)} {P : Addr → Addr → List (Addr × Obj) → Prop} {A : Around} {g : Heap} {L : Addr} {m mg mb : Str → Option Value} {s : Shared} {Q : Value → Shared → Prop} {E : Value → Shared → Prop}
    {p : Program} {loose : List Str} {mean : ExcName → Option Value}
    (S : ∀ x dx, Spec w d fI (.ref x :: pos) ((x, instObj C dx) :: (dx, dictOf [] 0) :: T) (fun v T' => v = .none ∧ P x dx T')) (F : Fr g L s.heap m) (X : (hd.heap_39 w.params).In g) (Tp : Top p loose mean mg mb g) (N : News g L s.heap led) (nd : Apart (led.map (·.1))) (tk : TakeAll led T rest)
    (hm : makesIn (hd.heap_39 w.params) C = true) (hi : findIn (hd.heap_39 w.params) (.ref C) "__init__" = some (some (.ref fI))) (hf : isFn (hd.heap_39 w.params) (.ref fI) = true)
    (hA : ALe (A.under (.builtin "type.__call__" ⟨.ref C :: pos, []⟩)) (Lv d))
    (h : ∀ x dx T' h' tk, P x dx T' → Fr g L h' m → News g L h' (T' ++ rest) → Apart ((T' ++ rest).map (·.1)) → Q (.ref x) { s with heap := h', toks := tk }) :
    wpAny (model Challenge.rw_uc0019_01.row.prog w) A (call (.ref C) pos []) Q E s := by
  refine call_cls F X N hm hi hf fun x dx h' F' N' l1 l2 => ?_
  have nd' : Apart (((x, instObj C dx) :: (dx, dictOf [] 0) :: led).map (·.1)) := apart_lt2 l1 nd l2
  have tk' : TakeAll ((x, instObj C dx) :: (dx, dictOf [] 0) :: led) ((x, instObj C dx) :: (dx, dictOf [] 0) :: T) rest := .cons .head (.cons .head tk)
  refine code_le hA (codeAny_mono (frame_call (E := E) (Q := fun v s' => v = .none ∧ Q (.ref x) s') F' N' nd' tk' fun g' hg G => ?_) fun r s' hr => ?_)
  · refine S x dx g' _ _ p loose mean mg mb (X.keeps hg) (Tp.keeps hg) G ?_ fun v T' h' tk' hp G' n' => ⟨T', G', n', fun F' N' ND => ⟨hp.1, h x dx T' h' tk' hp.2 F' N' ND⟩⟩
    have pm := (tk'.perm.map (fun x : Addr × Obj => x.1)).nodup_iff.mp nd'
    rw [List.map_append] at pm
    exact (List.nodup_append.mp pm).1
  · unfold InitBack
    rcases r with e | (v | _ | _ | _)
    all_goals exact hr
end Mine
end
section
open PySem PySem.W PySem.W.X PySem.Calls PyProof.Rows PyProof.Rows.LCg PyProof.Rows.LCt
namespace Mine
structure Hd where
  x : Addr
  dx : Addr
  pb : Addr
  fp : Addr
  ln : Int
  vs : List Value
  n : Nat
  k1 : Tok
  k2 : Tok
  k3 : Tok
  k4 : Tok
  k5 : Tok
  k6 : Tok
noncomputable abbrev hdT (w : World) (d : Hd) : List (Addr × Obj) := [(d.x, instObj 150 d.dx), (d.dx, dictOf [{ hash := PyData.keyHash w.params (Str.ofString "lineno"), key := .str (Str.ofString "lineno") d.k1, val := .int d.ln d.k2 }, { hash := PyData.keyHash w.params (Str.ofString "instream"), key := .str (Str.ofString "instream") d.k3, val := .ref d.fp }, { hash := PyData.keyHash w.params (Str.ofString "whitespace"), key := .str (Str.ofString "whitespace") d.k4, val := .str (Str.ofString "\n\t\r ") d.k5 }, { hash := PyData.keyHash w.params (Str.ofString "pushback"), key := .str (Str.ofString "pushback") d.k6, val := .ref d.pb }] 4), (d.pb, W.listOf d.vs.toArray d.n)]
structure St where
  f1 : Addr
  o1 : FuncData
  D : Addr
  oD : Obj
  f2 : Addr
  o2 : FuncData
  cl : Addr
  oc : Obj
  sl : Addr
  ys : List Value
  n : Nat
noncomputable abbrev stT (d : St) : List (Addr × Obj) := [(d.f1, ⟨.type "function", some d.D, .func d.o1, #[]⟩), (d.D, d.oD), (d.f2, ⟨.type "function", none, .func d.o2, #[]⟩), (d.cl, d.oc), (d.sl, W.listOf d.ys.toArray d.n)]
structure Tb where
  c1 : Addr
  c2 : Addr
  o1 : Obj
  o2 : Obj
noncomputable abbrev tbT (d : Tb) : List (Addr × Obj) := [(180, tabObj (#[] ++ #[rawInt 139, rawInt 13, Value.ref d.c1] ++ #[rawInt 140, rawInt 18, Value.ref d.c2])), (d.c1, d.o1), (d.c2, d.o2)]
noncomputable abbrev qualR : Str := (Str.ofString "_law_lexer" ++ ".<locals>.") ++ Str.ofString "<lambda>"
noncomputable def TbOk (tb : Tb) : Prop := ∃ (vs : Array Value) (t : Tok), tb.o2.data = .fields vs ∧ vs[1]? = some (.str qualR t)
noncomputable def ReadsFn (w : World) (f2 cl c2 : Addr) (o2 : FuncData) (oc oc2 : Obj) : Prop := ∀ (sl : Addr) (n : Nat) (t : Tok), oc.data = .cell (some (.ref sl)) →
  Spec w 900 f2 [.int 1 t] [(f2, ⟨.type "function", none, .func o2, #[]⟩), (cl, oc), (sl, W.listOf #[] n), (c2, oc2)] (fun v T' => StrV v [] ∧ T' = [(f2, ⟨.type "function", none, .func o2, #[]⟩), (cl, oc), (sl, W.listOf #[] n), (c2, oc2)]) ∧
  ∀ (y : Value) (ys : List Value) (c : Nat) (cs : List Nat), TxsAre (y :: ys) ((c :: cs).map fun c => [c]) → (∀ l ∈ (c :: cs).map fun c => [c], ∀ d ∈ l, d < 128) → ys.length ≤ 1000 → Spec w 900 f2 [.int 1 t] [(f2, ⟨.type "function", none, .func o2, #[]⟩), (cl, oc), (sl, W.listOf (y :: ys).toArray n), (c2, oc2)] (fun v T' => v = y ∧ T' = [(f2, ⟨.type "function", none, .func o2, #[]⟩), (cl, oc), (sl, W.listOf ys.toArray (n + 1)), (c2, oc2)])
structure StOk (w : World) (e : St) (tb : Tb) (l : List Nat) : Prop where
  ns : NsObj e.oD (fun y => if y = Str.ofString "read" then some (.ref e.f2) else none)
  cell : e.oc.data = .cell (some (.ref e.sl))
  ys : TxsAre e.ys (l.map fun c => [c])
  rd : ReadsFn w e.f2 e.cl tb.c2 e.o2 e.oc tb.o2
theorem of_nl : Str.ofString "\n" = Tx [10] := by decide +kernel
theorem is_nl {c : Nat} (h : (Tx [c] == Str.ofString "\n") = true) : c = 10 := by
  rw [of_nl] at h
  have := eq_of_beq h
  simpa [Tx] using this
theorem not_nl {c : Nat} (h : (Tx [c] == Str.ofString "\n") = false) : c ≠ 10 := by
  rintro rfl
  rw [of_nl] at h
  simp at h
theorem ne_full {prog : Program} {w : World} {A : Around} {E : Value → Shared → Prop} {s : Shared} {g : Heap} {L : Addr} {led : List (Addr × Obj)} {a b : Addr} {vs : List Value} {n k : Nat} {ls : List (List Nat)} {Q : Value → Shared → Prop} (N : News g L s.heap led) (ma : (a, W.listOf vs.toArray n) ∈ led) (mb : (b, W.listOf #[] k) ∈ led) (ht : TxsAre vs ls) (hc : ∀ l ∈ ls, ∀ d ∈ l, d < 128) (hne : ls ≠ []) (hu : A.units + 64 < cLine) (h : Q (.bool true) s) : wpAny (model prog w) A (compareOp .NotEq (.ref a) (.ref b)) Q E s := by
  refine ne_rd N (Rd.list ma (RdA.strs ht)) (Rd.list (vs := []) (n := k) mb .nil) (Sh.list (k := 2) (ShA.txs hc)) (Sh.list (k := 2) .nil) hu ?_
  cases ls with
  | nil => exact absurd rfl hne
  | cons x r =>
    have : PyData.eqv (.list (((x :: r).map Tx).map .str)) (.list []) = false := by simp [PyData.eqv, PyData.eqvAll]
    rw [this]; exact h
section
variable {prog : Program} {w : World} {A : Around} {s : Shared} {g : Heap} {T : List (Addr × Obj)} {K : Frag} {mg mb : Str → Option Value} {p : Program} {loose : List Str} {mean : ExcName → Option Value} {R : Result → Shared → Prop}
theorem lve_k {v : Value} {L : Addr} {m : Str → Option Value} {led rest : List (Addr × Obj)} {P : Value → List (Addr × Obj) → Prop} {h₂ : Heap} {tk₂ : Tok} (k : ∀ v T' h' tk, P v T' → Gr g h' T' → Apart (T'.map (·.1)) → R (.ok (.ret v)) { s with heap := h', toks := tk }) (hP : P v T)
    (F : Fr g L h₂ m) (N : News g L h₂ led) (nd : Apart (led.map (·.1))) (tk : TakeAll led T rest) : Lve g R v { s with heap := h₂, toks := tk₂ } :=
  lve_take F N nd tk fun G' ND' => k _ _ _ _ hP G' ND'
theorem enterE {name qual : Str} {params : Arguments} {body : Expr} {scope : Scope} {cl : List (Str × Addr)} {pm ctv : Value} {c' : Addr} {oc : Obj} {vs : Array Value} {t : Tok} {f : Addr} {args : Args} {binds : List (Str × Value)}
    (Tp : Top p loose mean mg mb g) (G : Gr g s.heap T) (ho : (f, kla_obj name qual params body scope cl pm c' ctv) ∈ T) (hc : (c', oc) ∈ T) (hcd : oc.data = .fields vs) (hq : vs[1]? = some (.str qual t)) (hroom : A.depth < recursionLimit)
    (hbind : bindArgs (kla_fn name qual params body scope cl pm (.ref c') ctv) args = pure binds) (hloc : ∀ y ∈ binds, scope.names.lookup y.1 = some .local)
    (h : ∀ L' h₁, Fr g L' h₁ (fun y => binds.reverse.lookup y) → News g L' h₁ T →
      wpAny (model prog w) (A.deeper (envX qual scope L' f (.ref c') cl)) (eval body (envX qual scope L' f (.ref c') cl))
        (fun v s' => Lve g R v s')
        (fun e s' => wpAny (model prog w) (A.deeper (envX qual scope L' f (.ref c') cl)) (leaving (envX qual scope L' f (.ref c') cl) e) (fun _ s'' => R (.error e) s'') (fun e' s'' => R (.error e') s'') s')
        { s with heap := h₁, toks := s.toks + binds.length })
    (hco : scope.isCoroutine = false) (hgen : scope.isGenerator = false) (hk : scope.kind = .function)
    (hcell : ∀ x ∈ scope.names, x.2 ≠ .cell) : codeAny (model prog w) A (.call (.ref f) args) R s := by
  refine kla_callFunE hroom (G.own _ ho).1 rfl hco hgen rfl ⟨c', oc, vs, t, rfl, (G.own _ hc).1, hcd, hq⟩ ?_
  rw [hbind]
  refine wpAny_pure (wpAny_newFunctionEnv hcell hloc (fun h₁ hns hsb => ⟨((Tp.nolimit).keeps G.keep).fresh _ hsb, ?_⟩) hk)
  show codeAny _ _ (.expr body (envX qual scope s.heap.objs.size f (.ref c') cl)) _ _
  have hk₁ : ∀ b o, s.heap.get? b = some o → h₁.get? b = some o := fun b o e => hsb.extBut b o (Nat.ne_of_lt (Heap.lt_size e)) (Heap.get?_push_of_some _ e)
  exact kla_codeExpr (wpAny_mono (h s.heap.objs.size h₁ ⟨hns, fun b o e => hk₁ b o (G.keep b o e), G.size⟩ (G.news hk₁)) (fun v s' hl => hl.out) fun _ _ y => y)
end
end Mine
end
section
open PySem PySem.W PySem.W.X PySem.Calls PyProof.Rows
namespace Mine
noncomputable def flagTab : List (Int × KTD.Dat) := [(1, .flat (.str (Str.ofString "OPTIMIZED"))), (2, .flat (.str (Str.ofString "NEWLOCALS"))), (4, .flat (.str (Str.ofString "VARARGS"))), (8, .flat (.str (Str.ofString "VARKEYWORDS"))), (16, .flat (.str (Str.ofString "NESTED"))), (32, .flat (.str (Str.ofString "GENERATOR"))), (64, .flat (.str (Str.ofString "NOFREE"))), (128, .flat (.str (Str.ofString "COROUTINE"))), (256, .flat (.str (Str.ofString "ITERABLE_COROUTINE"))), (512, .flat (.str (Str.ofString "ASYNC_GENERATOR")))]
theorem flag_at : ∀ i : Nat, i < 14 → (match flagTab.find? (fun p => decide ((2 : Int) ^ i = p.1)) with | some (_, .flat (.str x)) => x == Tx (nameL i) | some _ => false | none => decide (10 ≤ i) && (baseText "0x" 16 (2 ^ i) == Tx (nameL i))) = true := by decide +kernel
theorem each_find {h : Heap} {k : Int} {P : Value → Prop} {els : Prop} : ∀ {D : List (Int × KTD.Dat)}, (match D.find? (fun p => decide (k = p.1)) with | some p => KTD.Opened h P p.2 | none => els) → KTD.Each h k P els D
  | [], x => x
  | (y, d) :: D, x => by
    by_cases e : k = y
    · rw [List.find?_cons_of_pos (by simp [e])] at x
      exact KTD.each_hit e x
    · rw [List.find?_cons_of_neg (by simp [e])] at x
      exact KTD.each_miss e (each_find x)
theorem each_flag {h : Heap} {P : Value → Prop} {i : Nat} (hi : i < 14) (x : ∀ t, P (.str (Tx (nameL i)) t)) : KTD.Each h ((2 : Int) ^ i) P (KTD.Opened h P (.flat (.str (baseText "0x" 16 (2 ^ i))))) flagTab := by
  refine each_find ?_
  have q := flag_at i hi
  split
  · rename_i p hp
    rw [hp] at q
    obtain ⟨k, d⟩ := p
    split at q
    · rename_i a y e; cases e
      exact KTD.opened_str (by rw [eq_of_beq q]; exact x)
    · cases q
    · rename_i e; cases e
  · rename_i hp
    rw [hp] at q
    simp only [Bool.and_eq_true] at q
    exact KTD.opened_str (by rw [eq_of_beq q.2]; exact x)
noncomputable def restF (f i : Nat) : Nat := f / 2 ^ i * 2 ^ i
noncomputable def namesF (f i : Nat) : List (List Nat) := ((List.range i).filter f.testBit).map nameL
theorem restF_zero (f : Nat) : restF f 0 = f := by simp [restF]
theorem restF_bit {f i : Nat} : restF f i = restF f (i + 1) + (f / 2 ^ i % 2) * 2 ^ i := by
  unfold restF
  have h : f / 2 ^ (i + 1) = f / 2 ^ i / 2 := by rw [Nat.pow_succ, Nat.div_div_eq_div_mul]
  have h2 := Nat.div_add_mod (f / 2 ^ i) 2
  rw [h, Nat.pow_succ]
  calc f / 2 ^ i * 2 ^ i = (2 * (f / 2 ^ i / 2) + f / 2 ^ i % 2) * 2 ^ i := by rw [h2]
    _ = _ := by rw [Nat.add_mul, Nat.mul_comm 2, Nat.mul_assoc, Nat.mul_comm 2]
theorem restF_lt {f i : Nat} (hf : f < 16384) (h : restF f i ≠ 0) : i < 14 := by
  rcases Nat.lt_or_ge i 14 with q | q
  · exact q
  · refine absurd ?_ h
    unfold restF
    rw [Nat.div_eq_of_lt (Nat.lt_of_lt_of_le hf (Nat.pow_le_pow_right (by decide) q : 2 ^ 14 ≤ 2 ^ i)), Nat.zero_mul]
theorem and_pow (n i : Nat) : n &&& 2 ^ i = (n / 2 ^ i % 2) * 2 ^ i := by
  have hb : n.testBit i = decide (n / 2 ^ i % 2 = 1) := Nat.testBit_eq_decide_div_mod_eq
  refine Nat.eq_of_testBit_eq fun j => ?_
  rw [Nat.testBit_and, Nat.testBit_two_pow]
  rcases Nat.mod_two_eq_zero_or_one (n / 2 ^ i) with h | h
  · rw [h, Nat.zero_mul, Nat.zero_testBit]
    by_cases e : i = j
    · subst e; rw [hb, h]; simp
    · simp [e]
  · rw [h, Nat.one_mul, Nat.testBit_two_pow]
    by_cases e : i = j
    · subst e; rw [hb, h]; simp
    · simp [e]
theorem restF_div (f i : Nat) : restF f i / 2 ^ i = f / 2 ^ i := Nat.mul_div_cancel _ (Nat.two_pow_pos i)
theorem bit_and (f i : Nat) : Builtin.bitAnd ((restF f i : Nat) : Int) ((2 : Int) ^ i) = (((f / 2 ^ i % 2) * 2 ^ i : Nat) : Int) := by
  have e : ((2 : Int) ^ i) = ((2 ^ i : Nat) : Int) := by simp
  rw [e, bitAnd_pp (Int.natCast_nonneg _) (Int.natCast_nonneg _), Int.toNat_natCast, Int.toNat_natCast, and_pow, restF_div]
theorem bit_xor {f i : Nat} (h : f / 2 ^ i % 2 = 1) : Builtin.bitXor ((restF f i : Nat) : Int) ((2 : Int) ^ i) = ((restF f (i + 1) : Nat) : Int) := by
  unfold Builtin.bitXor
  rw [bitOr_and, bit_and, h, Nat.one_mul, show ((2 : Int) ^ i) = ((2 ^ i : Nat) : Int) by simp, restF_bit (i := i), h]
  lia
theorem bit_of {f i : Nat} (h : Builtin.bitAnd ((restF f i : Nat) : Int) ((2 : Int) ^ i) ≠ 0) : f / 2 ^ i % 2 = 1 := by
  rw [bit_and] at h
  rcases Nat.mod_two_eq_zero_or_one (f / 2 ^ i) with q | q
  · rw [q] at h; simp at h
  · exact q
theorem bit_no {f i : Nat} (h : Builtin.bitAnd ((restF f i : Nat) : Int) ((2 : Int) ^ i) = 0) : f / 2 ^ i % 2 = 0 := by
  rw [bit_and] at h
  rcases Nat.mod_two_eq_zero_or_one (f / 2 ^ i) with q | q
  · exact q
  · rw [q] at h
    have := Nat.two_pow_pos i
    lia
theorem names_yes {f i : Nat} (h : f / 2 ^ i % 2 = 1) : namesF f (i + 1) = namesF f i ++ [nameL i] := by
  unfold namesF
  rw [List.range_succ, List.filter_append, List.map_append]
  simp [Nat.testBit_eq_decide_div_mod_eq, h]
theorem names_no {f i : Nat} (h : f / 2 ^ i % 2 = 0) : namesF f (i + 1) = namesF f i := by
  unfold namesF
  rw [List.range_succ, List.filter_append, List.map_append]
  simp [Nat.testBit_eq_decide_div_mod_eq, h]
theorem names_end {f i : Nat} (h : restF f i = 0) : ∀ k : Nat, namesF f (i + k) = namesF f i
  | 0 => rfl
  | k + 1 => by
    rw [← Nat.add_assoc, names_no, names_end h k]
    have hz : f / 2 ^ i = 0 := by
      have := restF_div f i
      rw [h] at this; simpa using this.symm
    rw [Nat.pow_add, ← Nat.div_div_eq_div_mul, hz, Nat.zero_div]
theorem names_len (f i : Nat) : (namesF f i).length ≤ i := by
  unfold namesF
  rw [List.length_map]
  have := List.length_filter_le f.testBit (List.range i)
  simpa using this
theorem name_len : ∀ i : Nat, (nameL i).length ≤ 18
  | 0 | 1 | 2 | 3 | 4 | 5 | 6 | 7 | 8 | 9 | 10 | 11 | 12 | 13 => by decide
  | n + 14 => by show (0 : Nat) ≤ 18; lia
theorem names_sum (f i : Nat) (hi : i ≤ 14) : ((namesF f i).map List.length).sum + (namesF f i).length ≤ 100000 := by
  have h := sum_len (ls := namesF f i) (B := 18) fun x hx => by
    unfold namesF at hx
    obtain ⟨k, _, rfl⟩ := List.mem_map.mp hx
    exact name_len k
  have := names_len f i
  lia
theorem txs_snoc {ys : List Value} {ls : List (List Nat)} {l : List Nat} {t : Tok} (h : TxsAre ys ls) : TxsAre (ys ++ [.str (Tx l) t]) (ls ++ [l]) := by
  simpa [TxsAre] using strs_app h (.cons (Tx l) t .nil)
section
variable {prog : Program} {w : World} {A : Around} {E : Value → Shared → Prop} {s : Shared} {Q : Value → Shared → Prop} {t u : Tok} {i : Nat}
theorem shl1 (hi : i < 14) (h : ∀ t k, Q (.int ((2 : Int) ^ i) t) { s with toks := k }) : wpAny (model prog w) A (binaryOp .LShift (.int 1 t) (.int (i : Int) u)) Q E s := by
  refine lshift_int_small (by lia) (by lia) (by decide) ?_
  rw [Int.one_mul, Int.toNat_natCast]; exact h _ _
theorem hexp (hi : i < 14) (h : ∀ t k, Q (.str (baseText "0x" 16 ((2 : Int) ^ i)) t) { s with toks := k }) : wpAny (model prog w) A (call (.builtin "hex") [.int ((2 : Int) ^ i) t]) Q E s := by
  refine P.hex_of_int (h _ _) (Nat.le_trans (PySem.fact_hex _).2 ?_)
  have h1 : ((2 : Int) ^ i).natAbs = 2 ^ i := by rw [Int.natAbs_pow]; rfl
  have h2 : 2 ^ i ≤ 2 ^ 13 := Nat.pow_le_pow_right (by decide) (by lia)
  rw [h1]
  exact size_line (by lia)
end
noncomputable def flagsL (f : Nat) : List Nat := joinL [44, 32] (namesF f 14)
end Mine
end
section
open PySem PySem.W PySem.W.X PySem.Calls PyProof.Rows PyProof.Rows.LCg PyProof.Rows.LCt
namespace Mine
theorem fr_buts {fp : List Addr} {g h h' : Heap} {L : Addr} {m : Str → Option Value} (F : Fr g L h m) (hk : ∀ b o, b ∉ fp → h.get? b = some o → h'.get? b = some o) (hL : L ∉ fp) (h0 : ∀ b ∈ fp, g.get? b = none) : Fr g L h' m :=
  ⟨F.ns.at' fun o e => hk _ o hL e, fun b o e => hk b o (fun hb => by rw [h0 b hb] at e; cases e) (F.keep b o e), F.above⟩
theorem news_buts {fp : List Addr} {g h h' : Heap} {L : Addr} {T : List (Addr × Obj)} (N : News g L h T) (hk : ∀ b o, b ∉ fp → h.get? b = some o → h'.get? b = some o) (off : ∀ p ∈ T, p.1 ∉ fp) : News g L h' T :=
  fun p hp => ⟨hk _ _ (off p hp) (N p hp).1, (N p hp).2⟩
theorem off1_of {D : Addr} : ∀ {T : List (Addr × Obj)}, (∀ p ∈ T, p.1 ≠ D) → Off1 D T
  | [], _ => trivial
  | p :: _, h => ⟨h p List.mem_cons_self, off1_of fun q hq => h q (List.mem_cons_of_mem _ hq)⟩
theorem permE (a b c : Addr) (l : List Addr) : (a :: b :: c :: l).Perm (c :: a :: b :: l) := ((List.Perm.swap c b l).cons a).trans (List.Perm.swap c a (b :: l))
section
variable {prog : Program} {w : World} {A : Around} {E : Value → Shared → Prop} {s : Shared} {g : Heap} {L : Addr} {m : Str → Option Value} {env : Env}
noncomputable abbrev SrcEF (prog : Program) (w : World) (A : Around) (g : Heap) (L : Addr) (m : Str → Option Value) (env : Env) (elt : Expr) (x x₂ : Str) (scope : Scope) (cl : List (Str × Addr)) (Fin : Shared → List Value → List (Addr × Obj) → Prop) (s : Shared) (e it l : Addr) (its : Array Value) (c : Nat) (T₀ : List (Addr × Obj)) (J : Nat → List Value → List (Addr × Obj) → Prop) : Prop :=
  A.handled = none ∧ Fr g L s.heap m ∧ News g L s.heap T₀ ∧ IsEnum s.heap e it 0 .none ∧ s.heap.IsListIter it l 0 ∧
    Apart (e :: it :: T₀.map (·.1)) ∧ (L ≠ e ∧ L ≠ it) ∧ (g.get? e = none ∧ g.get? it = none) ∧ its.size ≤ 10000 ∧ (∀ i ys T, J i ys T → (l, W.listOf its c) ∈ T) ∧ J 0 [] T₀ ∧
    (∀ i t v ys T oI oT C oC D m₂ h tk (E' : Value → Shared → Prop), i < its.size → its[i]? = some v → J i ys T → NsObj oC m₂ → m₂ x = some (.int (i : Nat) t) → m₂ x₂ = some v → Fr g L h m → News g L h ((e, oI) :: (C, oC) :: (D, lst ys) :: (it, oT) :: T) → Apart (e :: C :: D :: it :: T.map (·.1)) →
      wpAny (model prog w) A (eval elt (compEnvC scope cl C env)) (TurnC g L m e C D oI oC (lst ys) { s with heap := h, toks := tk } fun y T' => ∃ T₂, T' = (it, oT) :: T₂ ∧ J (i + 1) (ys ++ [y]) T₂) E' { s with heap := h, toks := tk }) ∧
    ∀ gg ys T, J its.size ys T → Apart (T.map (·.1)) → Fin { s with heap := gg } ys T
noncomputable def SrcE (prog : Program) (w : World) (A : Around) (g : Heap) (L : Addr) (m : Str → Option Value) (env : Env) (elt : Expr) (x x₂ : Str) (scope : Scope) (cl : List (Str × Addr)) (Fin : Shared → List Value → List (Addr × Obj) → Prop) (xv : Value) (s : Shared) : Prop :=
  ∃ (e it l : Addr) (its : Array Value) (c : Nat) (T₀ : List (Addr × Obj)) (J : Nat → List Value → List (Addr × Obj) → Prop), xv = .ref e ∧ SrcEF prog w A g L m env elt x x₂ scope cl Fin s e it l its c T₀ J
end
example : True := by
  k_with "m ne" => repeat' first | exact neWorld | exact neShared | exact neWs | exact neHd | exact neSt | exact neTb | exact neAround | exact nePos | exact neExpr | exact neScope | exact neEnv | refine nePair ?_ ?_ | infer_instance
  trivial
noncomputable section
namespace E_assign_comp_E_b
def P (prog : Program) (w : World) (A : Around) (E : Value → Shared → Prop) (g : Heap) (m : Str → Option Value) (env : Env) (elt iter : Expr) (x x₂ y : Str) (px px₂ tp py : Pos) (tk : Tok) (scope : Scope) (cl : List (Str × Addr)) (pos : Pos) (Q : Flow → Shared → Prop) (s₁ : Shared) (e it l : Addr) (its : Array Value) (c : Nat) (T₀ : List (Addr × Obj)) (J : Nat → List Value → List (Addr × Obj) → Prop) : Prop := (∀ z ∈ scope.names, z.2 ≠ .cell) → (scope.kind = .function) → (∀ z ∈ scope.names, z.2 = .local → scope.names.lookup z.1 = some .local) → (scope.names.lookup x = some .local) → (scope.names.lookup x₂ = some .local) → (x ≠ x₂) → (env.kindOf y = some .local) → ((env.scope.kind == .class || (env.scope.kind == .module && env.locals != env.globals)) = false) → (SrcEF prog w A g env.locals m env elt x x₂ scope cl (fun s₂ => FinA g env.locals m s₂ y Q) s₁ e it l its c T₀ J) → wpAny (model prog w) A (pyIter (.ref e)) (fun it_ s₂ => wpAny (model prog w) A (newList []) (fun acc s₃ => wpAny (model prog w) A (newFunctionEnv scope env.globals cl [] env.qual none .none (some env)) (fun cenv s₄ => codeAny (model prog w) A (.compStart (.ListComp elt [⟨.Tuple [.Name x px, .Name x₂ px₂] tk tp, iter, [], 0⟩] scope pos) 0 it_ acc { cenv with scope := relabel scope env }) (compPost (model prog w) A E (some (assign (.Name y py) env)) (fun _ s' => Q .next s') acc cenv.locals) s₄) E s₃) E s₂) E s₁
@[irreducible] def ζ := upick (by walk_at "m ne") ((ucat un16 (ucat un8 (ucat un4 un1))) P)
@[irreducible] def prog := ζ.1.1.1.1.1
@[irreducible] def w := ζ.1.1.1.1.2
@[irreducible] def A := ζ.1.1.1.2.1
@[irreducible] def E := ζ.1.1.1.2.2
@[irreducible] def g := ζ.1.1.2.1.1
@[irreducible] def m := ζ.1.1.2.1.2
@[irreducible] def env := ζ.1.1.2.2.1
@[irreducible] def iter := ζ.1.2.1.1.1
@[irreducible] def x := ζ.1.2.1.1.2
@[irreducible] def x₂ := ζ.1.2.1.2.1
@[irreducible] def y := ζ.1.2.1.2.2
@[irreducible] def px := ζ.1.2.2.1.1
@[irreducible] def px₂ := ζ.1.2.2.1.2
@[irreducible] def tp := ζ.1.2.2.2.1
@[irreducible] def tk := ζ.2.1.1.1.1
@[irreducible] def scope := ζ.2.1.1.1.2
@[irreducible] def cl := ζ.2.1.1.2.1
@[irreducible] def pos := ζ.2.1.1.2.2
@[irreducible] def Q := ζ.2.1.2.1.1
@[irreducible] def s₁ := ζ.2.1.2.1.2
@[irreducible] def e := ζ.2.1.2.2.1
@[irreducible] def it := ζ.2.1.2.2.2
@[irreducible] def l := ζ.2.2.1.1.1
@[irreducible] def its := ζ.2.2.1.1.2
@[irreducible] def c := ζ.2.2.1.2.1
@[irreducible] def T₀ := ζ.2.2.1.2.2
@[irreducible] def J := ζ.2.2.2
theorem core : P prog w A E g m env ζ.1.1.2.2.2 iter x x₂ y px px₂ tp ζ.1.2.2.2.2 tk scope cl pos Q s₁ e it l its c T₀ J := by
  intro hcell hkind hnames hx hx₂ hxx hy hp hF
  obtain ⟨hh, F, N, he, hit, nd, hL, hg, hsz, hS, j₀, turn, fin⟩ := hF
  have lstAt : ∀ {h i ys T}, J i ys T → News g env.locals h T → h.IsList l its := fun j N => ⟨_, (N _ (hS _ _ _ j)).1, rfl, c, rfl⟩
  have hle : ∀ {T : List (Addr × Obj)}, (l, W.listOf its c) ∈ T → Apart (e :: it :: T.map (·.1)) → l ≠ e ∧ l ≠ it := fun q n => by
    obtain ⟨n1, n⟩ := List.nodup_cons.mp n
    obtain ⟨n2, _⟩ := List.nodup_cons.mp n
    have m := List.mem_map_of_mem (f := (·.1)) q
    exact ⟨fun z => n1 (by rw [← z]; exact List.mem_cons_of_mem _ m), fun z => n2 (by rw [← z]; exact m)⟩
  have hei : e ≠ it := fun z => (List.nodup_cons.mp nd).1 (by rw [z]; exact List.mem_cons_self)
  obtain ⟨hl1, hl2⟩ := hle (hS _ _ _ j₀) nd
  have W := WalksT.enumerate (prog := prog) (w := w) hh e it l hei hl1 hl2 its
  refine W.self 0 _ _ _ ⟨⟨_, he⟩, hit, lstAt j₀ N⟩ ?_
  refine wpAny_newObj_type (wpAny_newFunctionEnv hcell (by intro y hy; simp at hy) (fun h₁ hns₁ hsb₁ => ?_) hkind)
  dsimp only at hns₁ hsb₁ ⊢
  generalize hH2 : s₁.heap.push { cls := .type "list", dict := none, data := .seq ([] : List Value).toArray } = H2 at hns₁ hsb₁ ⊢
  have hC : H2.objs.size = s₁.heap.objs.size + 1 := by rw [← hH2, Heap.size_push]
  have old : ∀ b o, s₁.heap.get? b = some o → h₁.get? b = some o := fun b o q => by
    have hb : b < s₁.heap.objs.size := Heap.lt_size q
    exact hsb₁.extBut b o (fun z => by rw [z, hC] at hb; exact Nat.lt_irrefl _ (Nat.lt_of_succ_lt hb)) (Heap.get?_push_of_some _ (hH2 ▸ Heap.get?_push_of_some _ q))
  have hDC : s₁.heap.objs.size ≠ H2.objs.size := by rw [hC]; exact Nat.ne_of_lt (Nat.lt_succ_self _)
  have hacc : h₁.get? s₁.heap.objs.size = some (lst []) := hsb₁.extBut _ _ hDC (Heap.get?_push_of_some _ (hH2 ▸ Heap.get?_push_size _ rfl))
  have fresh : ∀ a, s₁.heap.objs.size ≤ a → s₁.heap.get? a = none := fun a ha => Heap.get?_none_of_le ha
  have fresh₀ : ∀ a, s₁.heap.objs.size ≤ a → g.get? a = none := fun a ha => by
    cases q : g.get? a with
    | none => rfl
    | some o' => have := F.keep a o' q; rw [fresh a ha] at this; cases this
  have hD₀ : g.get? s₁.heap.objs.size = none := fresh₀ _ (Nat.le_refl _)
  have hC₀ : g.get? H2.objs.size = none := fresh₀ _ (by rw [hC]; exact Nat.le_succ _)
  have hLlt : env.locals < s₁.heap.objs.size := F.ns.lt
  have hDL : s₁.heap.objs.size ≠ env.locals := Nat.ne_of_gt hLlt
  have hCL : H2.objs.size ≠ env.locals := by rw [hC]; exact Nat.ne_of_gt (Nat.lt_succ_of_lt hLlt)
  have nd₀ : Apart (e :: H2.objs.size :: s₁.heap.objs.size :: it :: T₀.map (·.1)) := by
    have hel : e < s₁.heap.objs.size := Heap.lt_size he
    have hil : it < s₁.heap.objs.size := by obtain ⟨_, q, _⟩ := hit; exact Heap.lt_size q
    have hT : ∀ a ∈ e :: it :: T₀.map (·.1), a < s₁.heap.objs.size := fun a ha => by
      rcases List.mem_cons.mp ha with rfl | ha
      · exact hel
      · rcases List.mem_cons.mp ha with rfl | ha
        · exact hil
        · obtain ⟨p, hp, rfl⟩ := List.mem_map.mp ha; exact Heap.lt_size (N p hp).1
    have nC : H2.objs.size ∉ e :: it :: T₀.map (·.1) := fun z => by have := hT _ z; rw [hC] at this; exact Nat.lt_irrefl _ (Nat.lt_of_succ_lt this)
    have nD : s₁.heap.objs.size ∉ e :: it :: T₀.map (·.1) := fun z => Nat.lt_irrefl _ (hT _ z)
    have n : Apart (H2.objs.size :: s₁.heap.objs.size :: e :: it :: T₀.map (·.1)) := List.nodup_cons.mpr ⟨fun z => by
      rcases List.mem_cons.mp z with z | z
      · exact hDC z.symm
      · exact nC z, List.nodup_cons.mpr ⟨nD, nd⟩⟩
    have pm := permE H2.objs.size s₁.heap.objs.size e (it :: T₀.map (·.1))
    exact pm.nodup_iff.mp n
  have loop : ∀ s₃ : Shared, s₃ = { s₁ with heap := h₁, toks := s₁.toks + ([] : List (Str × Value)).length } →
      codeAny (model prog w) A (.compLoop (.ListComp ζ.1.1.2.2.2 [⟨.Tuple [.Name x px, .Name x₂ px₂] tk tp, iter, [], 0⟩] scope pos) 0 (.ref e) (.ref s₁.heap.objs.size) (compEnvC scope cl H2.objs.size env))
        (compPost (model prog w) A E (some (assign (Expr.Name y ζ.1.2.2.2.2) env)) (fun x s' => Q Flow.next s') (Value.ref s₁.heap.objs.size) H2.objs.size) s₃ := by
    rintro s₃ rfl
    refine LCp.codeAny_compLoop_pair (fun k s' => ∃ h' tk i ys m' T, s' = { s₁ with heap := h', toks := tk } ∧ i ≤ its.size ∧ k = its.size + 1 - i ∧ ys.length = i ∧ (∃ old, IsEnum h' e it (i : Nat) old) ∧ h'.IsListIter it l i ∧ Fr g env.locals h' m ∧ h'.Ns H2.objs.size m' ∧
      News g env.locals h' ((s₁.heap.objs.size, lst ys) :: T) ∧ Apart (e :: H2.objs.size :: s₁.heap.objs.size :: it :: T.map (·.1)) ∧ J i ys T) ?_ (its.size + 1)
      ⟨h₁, _, 0, [], _, T₀, rfl, Nat.zero_le _, rfl, rfl, ⟨_, old _ _ he⟩, hit.at fun o => old _ o, F.keeps old, hns₁, fun p hp => ?_, nd₀, j₀⟩
    · rintro k s' ⟨h', tk, i, ys, m', T, rfl, hi, rfl, hyl, hE, hI, F', hn', N', nd', j⟩
      obtain ⟨q1, q⟩ := List.nodup_cons.mp nd'
      obtain ⟨q2, q⟩ := List.nodup_cons.mp q
      obtain ⟨q3, q⟩ := List.nodup_cons.mp q
      obtain ⟨q4, q5⟩ := List.nodup_cons.mp q
      have offT : ∀ p ∈ T, p.1 ∉ [e, it] := fun p hp z => by
        have hm := List.mem_map_of_mem (f := (·.1)) hp
        rcases List.mem_cons.mp z with z | z
        · exact q1 (by rw [← z]; exact List.mem_cons_of_mem _ (List.mem_cons_of_mem _ (List.mem_cons_of_mem _ hm)))
        · rw [List.mem_singleton] at z; exact q4 (by rw [← z]; exact hm)
      have offD : s₁.heap.objs.size ∉ [e, it] := fun z => by
        rcases List.mem_cons.mp z with z | z
        · exact q1 (by rw [← z]; simp)
        · rw [List.mem_singleton] at z; exact q3 (by rw [z]; simp)
      have offC : H2.objs.size ∉ [e, it] := fun z => by
        rcases List.mem_cons.mp z with z | z
        · exact q1 (by rw [← z]; simp)
        · rw [List.mem_singleton] at z; exact q2 (by rw [z]; simp)
      have offL : env.locals ∉ [e, it] := fun z => by
        rcases List.mem_cons.mp z with z | z
        · exact hL.1 z
        · rw [List.mem_singleton] at z; exact hL.2 z
      have g0 : ∀ b ∈ [e, it], g.get? b = none := fun b hb => by
        rcases List.mem_cons.mp hb with rfl | hb
        · exact hg.1
        · rw [List.mem_singleton] at hb; rw [hb]; exact hg.2
      have offDT : ∀ p ∈ (s₁.heap.objs.size, lst ys) :: T, p.1 ∉ [e, it] := fun p hp => by
        rcases List.mem_cons.mp hp with rfl | hp
        · exact offD
        · exact offT p hp
      by_cases hlt : i < its.size
      · refine W.item i _ _ _ hlt ⟨hE, hI, lstAt j fun p hp => N' p (List.mem_cons_of_mem _ hp)⟩ fun Tp vals h₂ tk₂ hPv hTp htup hmid hk₂ => ?_
        obtain ⟨t, v, hv, rfl⟩ := hPv
        have F₂ := fr_buts F' hk₂ offL g0
        have N₂ := news_buts N' hk₂ offDT
        have hn₂ := hn'.at' fun o q => hk₂ _ o offC q
        have hTw := W.apart _ _ _ hmid
        refine W.go _ _ _ i Tp _ _ _ hmid fun h₄ hst₄ hk₄ => ?_
        have F₄ := fr_buts F₂ hk₄ offL g0
        have N₄ := news_buts N₂ hk₄ offDT
        have hn₄ := hn₂.at' fun o q => hk₄ _ o offC q
        have ht : IsTup h₄ Tp #[.int (i : Nat) t, v] := by
          obtain ⟨o, q, r⟩ := htup
          exact ⟨o, hk₄ _ o hTw q, r⟩
        refine assign_Tuple_tuple hh ht rfl rfl fun h₅ he₅ => ?_
        have up₅ : ∀ b o, h₄.get? b = some o → h₅.get? b = some o := fun b o q => he₅ b o (Nat.ne_of_lt (Heap.lt_size q)) q
        refine assignInOrder_cons (wpAny_assign_Name (wpAny_storeName_local (lookup_relabel_local hx) (hn₄.at' fun o q => up₅ _ o q) (fun h₆ hn₆ hs₆ => ?_) (by simp [compEnvC, relabel, hkind])))
        refine assignInOrder_cons (wpAny_assign_Name (wpAny_storeName_local (lookup_relabel_local hx₂) hn₆ (fun h₃ hn₃ hs₃ => ?_) (by simp [compEnvC, relabel, hkind])))
        refine assignInOrder_nil ?_
        have up₃ : ∀ b o, b ∉ [H2.objs.size] → h₄.get? b = some o → h₃.get? b = some o := fun b o hb q => hs₃.extBut b o (by simpa [compEnvC] using hb) (hs₆.extBut b o (by simpa [compEnvC] using hb) (up₅ b o q))
        have offC3 : ∀ p ∈ (s₁.heap.objs.size, lst ys) :: T, p.1 ∉ [H2.objs.size] := fun p hp z => by
          rw [List.mem_singleton] at z
          rcases List.mem_cons.mp hp with rfl | hp
          · exact hDC z
          · exact q2 (by rw [← z]; exact List.mem_cons_of_mem _ (List.mem_cons_of_mem _ (List.mem_map_of_mem (f := (·.1)) hp)))
        have F₃ : Fr g env.locals h₃ m := fr_buts F₄ up₃ (by rw [List.mem_singleton]; exact hCL.symm) fun b hb => by rw [List.mem_singleton] at hb; rw [hb]; exact hC₀
        have N₃ := news_buts N₄ up₃ offC3
        obtain ⟨⟨old₄, he₄⟩, hi₄, _⟩ := hst₄
        obtain ⟨oT, heT, hrT⟩ := hi₄
        have he₃ := up₃ _ _ (by rw [List.mem_singleton]; exact fun z => offC (by rw [← z]; simp)) he₄
        have hi₃ := up₃ _ _ (by rw [List.mem_singleton]; exact fun z => offC (by rw [← z]; simp)) heT
        obtain ⟨oC, heC, hoC⟩ := ns_obj hn₃
        refine wpAny_mono (turn i t v ys T { cls := .type "enumerate", dict := none, data := .fields #[.none, .bool false, .ref it, rawInt ((i + 1 : Nat) : Int), .none, old₄], slots := #[] } oT H2.objs.size oC s₁.heap.objs.size _ h₃ _ _ hlt hv j hoC (by simp [hxx]) (by simp) F₃ (fun p hp => ?_) nd') (fun yv s₄ hq => ?_) fun _ _ e => e
        · rcases List.mem_cons.mp hp with rfl | hp
          · exact ⟨he₃, Ne.symm hL.1, hg.1⟩
          · rcases List.mem_cons.mp hp with rfl | hp
            · exact ⟨heC, hCL, hC₀⟩
            · rcases List.mem_cons.mp hp with rfl | hp
              · exact N₃ _ List.mem_cons_self
              · rcases List.mem_cons.mp hp with rfl | hp
                · exact ⟨hi₃, Ne.symm hL.2, hg.2⟩
                · exact N₃ _ (List.mem_cons_of_mem _ hp)
        · obtain ⟨h₇, tk₇, T', rfl, F₇, N₇, nd₇, T₂, rfl, j₇⟩ := hq
          have zI := (N₇ _ List.mem_cons_self).1
          have zC := (N₇ _ (List.mem_cons_of_mem _ List.mem_cons_self)).1
          have zD := (N₇ _ (List.mem_cons_of_mem _ (List.mem_cons_of_mem _ List.mem_cons_self))).1
          have zT := (N₇ _ (List.mem_cons_of_mem _ (List.mem_cons_of_mem _ (List.mem_cons_of_mem _ List.mem_cons_self)))).1
          refine append_at (hsz := by show ys.toArray.size ≤ sizeLine; rw [List.size_toArray, hyl]; exact Nat.le_trans hi (Nat.le_trans hsz (by decide))) zD fun h₈ hs₈ hD₈ => ?_
          obtain ⟨r1, r⟩ := List.nodup_cons.mp nd₇
          obtain ⟨r2, r⟩ := List.nodup_cons.mp r
          obtain ⟨r3, r⟩ := List.nodup_cons.mp r
          refine ⟨its.size + 1 - (i + 1), by lia, h₈, tk₇, i + 1, ys ++ [yv], _, T₂, rfl, hlt, rfl, by rw [List.length_append, List.length_singleton, hyl], ⟨old₄, hs₈.extBut _ _ (fun z => r1 (by rw [z]; simp)) zI⟩, ⟨oT, hs₈.extBut _ _ (fun z => r3 (by rw [← z]; simp)) zT, hrT⟩, F₇.change hs₈ hDL hD₀,
            (hoC.ns zC).sameBut hs₈ (Ne.symm hDC), fun p hp => ?_, nd₇, j₇⟩
          rcases List.mem_cons.mp hp with rfl | hp
          · exact ⟨hD₈.trans (congrArg some (lst_snoc ys yv)), hDL, hD₀⟩
          · have z := N₇ p (List.mem_cons_of_mem _ (List.mem_cons_of_mem _ (List.mem_cons_of_mem _ (List.mem_cons_of_mem _ hp))))
            exact ⟨hs₈.extBut _ _ (fun q => r3 (by rw [← q]; exact List.mem_cons_of_mem _ (List.mem_map_of_mem (f := (·.1)) hp))) z.1, z.2⟩
      · obtain rfl : i = its.size := Nat.le_antisymm hi (Nat.not_lt.mp hlt)
        refine W.done _ _ _ ⟨hE, hI, lstAt j fun p hp => N' p (List.mem_cons_of_mem _ hp)⟩ fun h₂ tk₂ hk₂ => ?_
        have F₂ := fr_buts F' hk₂ offL g0
        have N₂ := news_buts N' hk₂ offDT
        have hn₂ := hn'.at' fun o q => hk₂ _ o offC q
        show wpAny _ A (assign (.Name y ζ.1.2.2.2.2) env (.ref s₁.heap.objs.size)) _ _ _
        refine wpAny_assign_Name (wpAny_storeName_local hy F₂.ns (fun h₃ hn₃ hs₃ => ?_) hp)
        have hL₀ : g.get? env.locals = none := Heap.get?_none_of_le F₂.above
        have F₃ : Fr g env.locals h₃ (fun z => if z = y then some (.ref s₁.heap.objs.size) else m z) := ⟨hn₃, fun b o e => hs₃.extBut b o (fun q => by rw [q, hL₀] at e; cases e) (F₂.keep b o e), F₂.above⟩
        refine ⟨m', hn₂.sameBut hs₃ hCL, fun h'' hs'' => ?_⟩
        refine fin s₁.heap ys T j q5 _ h'' _ (F₃.change hs'' hCL hC₀) (fun p hp => ?_) ?_
        · have z : h₃.get? p.1 = some p.2 := hs₃.extBut _ _ (N₂ p hp).2.1 (N₂ p hp).1
          refine ⟨hs''.extBut _ _ ?_ z, (N₂ p hp).2⟩
          rcases List.mem_cons.mp hp with rfl | hp
          · exact hDC
          · exact fun z => q2 (by rw [← z]; exact List.mem_cons_of_mem _ (List.mem_cons_of_mem _ (List.mem_map_of_mem (f := (·.1)) hp)))
        · exact off1_of fun p hp z => q3 (by rw [← z]; exact List.mem_cons_of_mem _ (List.mem_map_of_mem (f := (·.1)) hp))
    · rcases List.mem_cons.mp hp with rfl | hp
      · exact ⟨hacc, hDL, hD₀⟩
      · exact ⟨old _ _ (N p hp).1, (N p hp).2⟩
  exact codeAny_compStart_list (loop _ rfl) (W.self 0 _ _ _ ⟨⟨_, old _ _ he⟩, hit.at fun o => old _ o, (lstAt j₀ N).at fun o => old _ o⟩ (loop _ rfl))
end E_assign_comp_E_b
end
theorem assign_comp_E_b : ∀ {prog w A E g m env elt iter x x₂ y px px₂ tp py tk scope cl pos Q s₁ e it l its c T₀ J}, E_assign_comp_E_b.P prog w A E g m env elt iter x x₂ y px px₂ tp py tk scope cl pos Q s₁ e it l its c T₀ J := fun {prog w A E g m env elt iter x x₂ y px px₂ tp py tk scope cl pos Q s₁ e it l its c T₀ J} => by with_unfolding_all exact pk (c := E_assign_comp_E_b.ζ) rfl E_assign_comp_E_b.core (((((prog, w), (A, E)), ((g, m), (env, elt))), (((iter, x), (x₂, y)), ((px, px₂), (tp, py)))), ((((tk, scope), (cl, pos)), ((Q, s₁), (e, it))), (((l, its), (c, T₀)), J)))
section
variable {prog : Program} {w : World} {A : Around} {E : Value → Shared → Prop} {s : Shared} {g : Heap} {L : Addr} {m : Str → Option Value} {env : Env}
theorem assign_comp_E {elt iter : Expr} {x x₂ y : Str} {px px₂ tp py : Pos} {tk} {scope : Scope} {cl : List (Str × Addr)} {pos spos : Pos} {Q : Flow → Shared → Prop} (F₀ : Fr g L s.heap m) (hLe : env.locals = L)
    (hsw : swapsWith (.ListComp elt [⟨.Tuple [.Name x px, .Name x₂ px₂] tk tp, iter, [], 0⟩] scope pos) (some (.Name y py)) spos.line env = pure true)
    (hclos : closureFor scope env = pure cl) (hcell : ∀ z ∈ scope.names, z.2 ≠ .cell) (hkind : scope.kind = .function)
    (hnames : ∀ z ∈ scope.names, z.2 = .local → scope.names.lookup z.1 = some .local) (hx : scope.names.lookup x = some .local) (hx₂ : scope.names.lookup x₂ = some .local) (hxx : x ≠ x₂)
    (hy : env.kindOf y = some .local) (hp : (env.scope.kind == .class || (env.scope.kind == .module && env.locals != env.globals)) = false)
    (h : wpAny (model prog w) A (eval iter env) (SrcE prog w A g L m env elt x x₂ scope cl (fun s₂ => FinA g L m s₂ y Q)) E s)
    (hs : ∀ x, foldedSetIterable iter env x = pure x := by intro _; rfl) :
    wpAny (model prog w) A (exec (.Assign [.Name y py] (.ListComp elt [⟨.Tuple [.Name x px, .Name x₂ px₂] tk tp, iter, [], 0⟩] scope pos) spos) env) Q E s := by
  subst hLe
  rw [exec_Assign_Name_used _ _ _ _ hsw]
  refine wpAny_bind (wpAny_standAt (wpAny_bind ?_))
  show wpAny _ A (do let _ ← comprehension (.ListComp elt [⟨.Tuple [.Name x px, .Name x₂ px₂] tk tp, iter, [], 0⟩] scope pos) scope env _ (newList []) false (eval iter env) (some (assign (.Name y py) env))) _ _ s
  refine wpAny_bind (wpAny_mono (wpAny_comprehension_free (use := some (assign (.Name y py) env)) (Q := fun _ s' => Q .next s') rfl hs hclos hkind hnames
    (wpAny_mono h (fun xv s₁ h₁ => ?_) fun _ _ e => e)) (fun _ s' hq => wpAny_pure (wpAny_pure hq)) fun _ _ e => e)
  obtain ⟨e, it, l, its, c, T₀, J, rfl, hF⟩ := h₁
  exact assign_comp_E_b hcell hkind hnames hx hx₂ hxx hy hp hF
theorem enum_src {elt : Expr} {x x₂ : Str} {scope : Scope} {cl : List (Str × Addr)} {Fin : Shared → List Value → List (Addr × Obj) → Prop} {l : Addr} {its : Array Value} {c : Nat} {led : List (Addr × Obj)}
    (J : Nat → List Value → List (Addr × Obj) → Prop) (hh : A.handled = none) (F : Fr g L s.heap m) (N : News g L s.heap led) (nd : Apart (led.map (·.1))) (hm : (l, W.listOf its c) ∈ led) (hsz : its.size ≤ 10000) (hS : ∀ i ys T, J i ys T → (l, W.listOf its c) ∈ T) (j₀ : J 0 [] led)
    (turn : ∀ (I It : Addr) i t v ys T oI oT C oC D m₂ h tk (E' : Value → Shared → Prop), i < its.size → its[i]? = some v → J i ys T → NsObj oC m₂ → m₂ x = some (.int (i : Nat) t) → m₂ x₂ = some v → Fr g L h m → News g L h ((I, oI) :: (C, oC) :: (D, lst ys) :: (It, oT) :: T) → Apart (I :: C :: D :: It :: T.map (·.1)) →
      wpAny (model prog w) A (eval elt (compEnvC scope cl C env)) (TurnC g L m I C D oI oC (lst ys) { s with heap := h, toks := tk } fun y T' => ∃ T₂, T' = (It, oT) :: T₂ ∧ J (i + 1) (ys ++ [y]) T₂) E' { s with heap := h, toks := tk })
    (fin : ∀ gg ys T, J its.size ys T → Apart (T.map (·.1)) → Fin { s with heap := gg } ys T) :
    wpAny (model prog w) A (call (.type "enumerate") [.ref l]) (fun v s' => SrcE prog w A g L m env elt x x₂ scope cl Fin v s') E s := by
  have hl : s.heap.IsList l its := ⟨_, (N _ hm).1, rfl, c, rfl⟩
  refine call_enumerate_list hl fun h' he hi hz hk => ?_
  have hLlt := F.ns.lt
  have fresh₀ : ∀ a, s.heap.objs.size ≤ a → g.get? a = none := fun a ha => by
    cases q : g.get? a with
    | none => rfl
    | some o' => have := F.keep a o' q; rw [Heap.get?_none_of_le ha] at this; cases this
  have hT : ∀ a ∈ led.map (·.1), a < s.heap.objs.size := fun a ha => by
    obtain ⟨p, hp, rfl⟩ := List.mem_map.mp ha; exact Heap.lt_size (N p hp).1
  exact ⟨_, _, l, its, c, led, J, rfl, hh, F.keeps hk, N.grown hk, he, hi, List.nodup_cons.mpr ⟨fun z => by
    rcases List.mem_cons.mp z with z | z
    · exact Nat.succ_ne_self _ z
    · exact Nat.lt_irrefl _ (Nat.lt_of_succ_lt (hT _ z)), List.nodup_cons.mpr ⟨fun z => Nat.lt_irrefl _ (hT _ z), nd⟩⟩, ⟨Nat.ne_of_lt (Nat.lt_succ_of_lt hLlt), Nat.ne_of_lt hLlt⟩, ⟨fresh₀ _ (Nat.le_succ _), fresh₀ _ (Nat.le_refl _)⟩, hsz, hS, j₀, turn _ _, fin⟩
end
end Mine
end
section
open PySem PySem.W PySem.W.X PySem.Calls PyProof.Rows PyProof.Rows.LCg PyProof.Rows.LCt Builtin Builtin.SmallTypes
namespace Mine
theorem slot_ci_iter : Slot "callable_iterator" "__iter__" "callable_iterator.__iter__" :=
  .of (owner := "callable_iterator") (n := "__iter__") (by rw [typeLookup_type, builtinLookup_eq_fast]; kernel_rfl) (by decide +kernel) (by decide +kernel) (by decide +kernel)
    (by first | exact .inl (by decide +kernel) | exact .inr (by decide +kernel)) (by rw [isSubtype_type]; kernel_rfl)
theorem slot_ci_next : Slot "callable_iterator" "__next__" "callable_iterator.__next__" :=
  .of (owner := "callable_iterator") (n := "__next__") (by rw [typeLookup_type, builtinLookup_eq_fast]; kernel_rfl) (by decide +kernel) (by decide +kernel) (by decide +kernel)
    (by first | exact .inl (by decide +kernel) | exact .inr (by decide +kernel)) (by rw [isSubtype_type]; kernel_rfl)
theorem entry_ci_iter : entryFor table "callable_iterator.__iter__" = some Builtin.«dict_keyiterator.__iter__» :=
  entryFor_alias (id' := "dict_keyiterator.__iter__") (by kernel_rfl) (by first | rfl | decide +kernel) (by decide +kernel) (by kernel_rfl)
theorem entry_ci_next : entryFor table "callable_iterator.__next__" = some Builtin.«callable_iterator.__next__» := entryFor_of_tree (by kernel_rfl)
theorem args_ci_iter (a : Value) : argsOk "callable_iterator.__iter__" ⟨[a], []⟩ := by unfold argsOk; kernel_rfl
theorem args_ci_next (a : Value) : argsOk "callable_iterator.__next__" ⟨[a], []⟩ := by unfold argsOk; kernel_rfl
theorem entry_iter : entryFor table "iter" = some Builtin.«iter» := entryFor_of_tree (by kernel_rfl)
theorem kind_iter : builtinKind "iter" = none := by decide +kernel
theorem plain_iter : plainId "iter" = true := by decide +kernel
theorem args_iter2 (a b : Value) : argsOk "iter" ⟨[a, b], []⟩ := by unfold argsOk; kernel_rfl
theorem meth_call : ∃ r, typeLookup (.type "method") "__call__" = pure (some r) := ⟨.builtin "method.__call__", by rw [typeLookup_type, builtinLookup_eq_fast]; kernel_rfl⟩
theorem sub_stop : isSubtype (.type "StopIteration") (.type "StopIteration") = pure true := by rw [isSubtype_type]; kernel_rfl
noncomputable abbrev itOn (q : Addr) (t : Tok) : Obj := { cls := .type "callable_iterator", data := .fields #[.ref q, .str (Str.ofString "") t, .bool false] }
noncomputable abbrev itOff : Obj := { cls := .type "callable_iterator", data := .fields #[.none, .none, .bool true] }
section
variable {prog : Program} {w : World} {A : Around} {E : Value → Shared → Prop} {s : Shared} {q I : Addr} {t : Tok}
theorem ci_make {f self : Value} {Q : Value → Shared → Prop} (hq : s.heap.get? q = some (methodObj f self)) (h : Q (.ref s.heap.objs.size) { s with heap := s.heap.push (itOn q t) }) : wpAny (model prog w) A (call (.builtin "iter") [.ref q, .str (Str.ofString "") t]) Q E s := by
  refine call_function_meets kind_iter plain_iter entry_iter (args_iter2 _ _) (S := fun _ R s => s.heap.get? q = some (methodObj f self) ∧ R (.ok (.ret (.ref s.heap.objs.size))) { s with heap := s.heap.push (itOn q t) }) (.of_wp fun prog w A R s hs => ?_) ⟨hq, h⟩
  obtain ⟨r, hr⟩ := meth_call
  have hT : s.TypeIs (.ref q) "method" := ⟨_, hs.1, rfl⟩
  show wpAny _ _ (specialOf (.ref q) "__call__" >>= _) _ _ s
  refine wpAny_bind (wpAny_specialOf hT hr ?_)
  show wpAny _ _ (if (false : Bool) = true then _ else _) _ _ s
  rw [if_neg Bool.false_ne_true]
  refine wpAny_bind (wpAny_rule ?_)
  refine wpAny_bind (m := newFields _ _) ?_
  show wpAny _ _ (newObj _ _) _ _ s
  exact wpAny_newObj_type (wpAny_pure ⟨_, rfl, hs.2⟩) (by size_fits)
theorem ci_iter {o : Obj} {r : Value} {Q : Value → Shared → Prop} (hI : s.heap.get? I = some o) (hc : o.cls = .type "callable_iterator") (h : Q (.ref I) s) : wpAny (model prog w) A (pyIter (.ref I)) Q E s := by
  have hT : s.TypeIs (.ref I) "callable_iterator" := ⟨_, hI, hc⟩
  refine wpAny_pyIter_slot hT slot_ci_iter (wpAny_call_entry slot_ci_iter hT entry_ci_iter ?_ (args_ci_iter _))
  show wpAny _ _ (ret (.ref I)) _ _ s
  exact wpAny_pure ⟨_, rfl, "callable_iterator", _, hT, slot_ci_next.lookup, h⟩
theorem wpAny_callBorrowed {M : Model} {f : Value} {pos : List Value} {Q : Value → Shared → Prop} (hc : codeAny M A (.call f ⟨pos, []⟩) (fun r s' => match r with | .ok (.ret v) => Q v s' | .ok _ => False | .error e => E e s') s) : wpAny M A (callBorrowed f pos) Q E s := fun Γ p hΓ => by
  have := hc _ p rfl (hΓ.enter (.call f ⟨pos, []⟩) none p (by intro x; cases x))
  unfold callBorrowed
  show wpCode M _ (fun r s' => _) p s
  refine wpCode_mono (fun r s' hr => ?_) this
  rcases r with e | (v | _ | _ | _) <;> first | exact hr | exact hr.elim
theorem meth_borrows {f : Addr} {self : Value} {fd : FuncData} {oc : Value} {od : Option Addr} {sl : Array (Option Value)} {Q : Bool → Shared → Prop} (hq : s.heap.get? q = some (methodObj (.ref f) self)) (hf : s.heap.get? f = some ⟨oc, od, .func fd, sl⟩) (h : Q true s) : wpAny (model prog w) A (borrowsExactly (.ref q)) Q E s := by
  unfold borrowsExactly
  refine wpAny_bind (wpAny_load hq ?_)
  dsimp only
  rw [if_pos (by decide)]
  show wpAny _ _ (load f >>= _) _ _ _
  exact wpAny_bind (wpAny_load hf (wpAny_pure h))
theorem eqb_str {x y : Str} {t u : Tok} {Q : Bool → Shared → Prop} (h : Q (x == y) s) : wpAny (model prog w) A (eqBool (.str x t) (.str y u)) Q E s := by
  unfold eqBool
  refine wpAny_holding ?_
  by_cases e : (Value.str x t == Value.str y u) = true
  · rw [if_pos e]
    have e2 := eq_of_beq e
    injection e2 with e3 e4
    subst e3
    refine wpAny_bind (wpAny_rule ?_)
    rw [beq_self_eq_true] at h
    exact wpAny_pure h
  · rw [if_neg e]
    dsimp only
    refine wpAny_bind (m := richCompare _ _ _) ?_
    refine eq_str ?_
    show wpAny _ _ (truthy (.bool (x == y))) _ _ _
    unfold truthy
    exact wpAny_pure h
theorem ci_next {f : Addr} {self : Value} {fd : FuncData} {oc : Value} {od : Option Addr} {sl : Array (Option Value)} {Q : Option Value → Shared → Prop} (hh : A.handled = none) (hI : s.heap.get? I = some (itOn q t)) (hq : s.heap.get? q = some (methodObj (.ref f) self)) (hf : s.heap.get? f = some ⟨oc, od, .func fd, sl⟩)
    (hc : codeAny (model prog w) A.in1 (.call (.ref f) ⟨[self], []⟩) (fun r s' => match r with
      | .ok (.ret v) => s'.heap.get? I = some (itOn q t) ∧ s'.heap.get? q = some (methodObj (.ref f) self) ∧ s'.heap.get? f = some ⟨oc, od, .func fd, sl⟩ ∧ ∃ x u, v = .str x u ∧ (x ≠ Str.ofString "" → Q (some v) s') ∧
          (x = Str.ofString "" → ∀ h', h'.get? I = some itOff → (∀ b o, b ≠ I → s'.heap.get? b = some o → h'.get? b = some o) → Q none { s' with heap := h' })
      | _ => False) s) : wpAny (model prog w) A (pyNext (.ref I)) Q E s := by
  have hT : s.TypeIs (.ref I) "callable_iterator" := ⟨_, hI, rfl⟩
  unfold pyNext
  refine wpAny_bind (wpAny_attempt (wpAny_callSpecial?_slot hT slot_ci_next (wpAny_call_entry slot_ci_next hT entry_ci_next ?_ (args_ci_next _))))
  show wpAny _ _ (field (.ref I) 2 >>= _) _ _ s
  refine wpAny_bind (wpAny_field hI rfl (x := .bool false) rfl ?_)
  rw [if_neg (show ¬ ((Value.bool false == Value.bool true) = true) from by decide)]
  refine wpAny_bind (m := field (.ref I) 0) (wpAny_field hI rfl (x := .ref q) rfl ?_)
  refine wpAny_bind (wpAny_attempt ?_)
  unfold callOutOfASlot
  refine wpAny_bind (meth_borrows hq hf ?_)
  rw [if_pos rfl]
  refine wpAny_callBorrowed (method_call hq (codeAny_mono hc fun r s' hr => ?_))
  rcases r with e | (v | _ | _ | _) <;> first | exact hr.elim | skip
  obtain ⟨a1, a2, a3, x, u, rfl, hne, he⟩ := hr
  dsimp only
  refine wpAny_bind (wpAny_field a1 rfl (x := .bool false) rfl ?_)
  rw [if_neg (show ¬ ((Value.bool false == Value.bool true) = true) from by decide)]
  refine wpAny_bind (m := field (.ref I) 1) (wpAny_field a1 rfl (x := .str (Str.ofString "") t) rfl ?_)
  refine wpAny_bind (wpAny_holding (eqb_str ?_))
  by_cases e : x = Str.ofString ""
  · subst e
    rw [beq_self_eq_true, if_neg (by decide)]
    refine wpAny_bind (wpAny_rule (wpAny_bind ?_))
    refine wpAny_bind (m := field (.ref I) 0) (wpAny_field a1 rfl (x := .ref q) rfl ?_)
    refine wpAny_bind (m := slotLetsGo _ _ _) ?_
    unfold slotLetsGo
    dsimp only
    refine wpAny_bind (meth_borrows a2 a3 ?_)
    rw [if_pos rfl]
    refine wpAny_pure ?_
    refine wpAny_bind (m := setField (.ref I) 0 .none) (wpAny_setField_rec a1 (by simp) fun h₁ e₁ s₁ => ?_)
    refine wpAny_bind (m := setField (.ref I) 1 .none) (wpAny_setField_rec e₁ (by simp) fun h₂ e₂ s₂ => ?_)
    refine wpAny_setField_rec e₂ (by simp) fun h₃ e₃ s₃ => ?_
    unfold stopIteration
    show wpAny _ _ (newExc (.type "StopIteration") [] >>= _) _ _ _
    refine wpAny_bind ?_
    simp only [newExc, newTuple]
    refine wpAny_bind (wpAny_newObj_type ?_ (by size_fits))
    refine wpAny_bind (m := firstArgMember _ _) (wpAny_of_eq (a := Value.none) (by first | rfl | (simp only [firstArgMember]; rfl)) ?_)
    refine wpAny_newObj_type ?_ (by size_fits)
    simp only [raiseNew]
    refine wpAny_bind (wpAny_handled ?_)
    rw [show A.in1.handled = none from hh]
    refine wpAny_bind (wpAny_pure (wpAny_throw ?_))
    refine wpAny_bind (wpAny_isInstance (T := "StopIteration") ?_ sub_stop ?_)
    · exact ⟨_, Heap.get?_push_size _ rfl, rfl⟩
    · rw [if_pos rfl]
      refine wpAny_pure (he rfl _ ?_ fun b o hb e => ?_)
      · exact Heap.get?_push_of_some _ (Heap.get?_push_of_some _ e₃)
      · exact Heap.get?_push_of_some _ (Heap.get?_push_of_some _ ((s₃.2 b hb).trans ((s₂.2 b hb).trans ((s₁.2 b hb).trans e))))
  · rw [show (Str.ofString "" == x) = false from by simpa using fun h => e h.symm, if_pos (by decide)]
    exact wpAny_pure ⟨_, rfl, wpAny_pure (hne e)⟩
end
end Mine
end
section
open PySem PySem.W PySem.W.X PySem.Calls PyProof.Rows PyProof.Rows.LCg PyProof.Rows.LCt
namespace Mine
section
variable {w : World} {A : Around} {E : Value → Shared → Prop} {s : Shared} {g : Heap} {L I q : Addr} {m mg mb : Str → Option Value} {p : Program} {loose : List Str} {mean : ExcName → Option Value}
theorem next_spec {d : Nat} {f x : Addr} {t : Tok} {T rest led : List (Addr × Obj)} {P : Value → List (Addr × Obj) → Prop} {oc : Value} {od : Option Addr} {fd : FuncData} {sl : Array (Option Value)} {Q : Option Value → Shared → Prop}
    (S : Spec w d f [.ref x] T P) (F : Fr g L s.heap m) (X : (hd.heap_39 w.params).In g) (Tp : Top p loose mean mg mb g) (N : News g L s.heap led) (nd : Apart (led.map (·.1))) (tk : TakeAll led T rest) (hA : ALe A.in1 (Lv d))
    (mI : (I, itOn q t) ∈ rest) (mq : (q, methodObj (.ref f) (.ref x)) ∈ rest) (hh : A.handled = none) (hf : (hd.heap_39 w.params).lookup f = some ⟨oc, od, .func fd, sl⟩)
    (hs : ∀ v T', P v T' → ∃ y u, v = .str y u)
    (h : ∀ v T' h' tk, P v T' → (∀ u, v ≠ .str (Str.ofString "") u) → Fr g L h' m → News g L h' (T' ++ rest) → Apart ((T' ++ rest).map (·.1)) → Q (some v) { s with heap := h', toks := tk })
    (h0 : ∀ u T' h' tk, P (.str (Str.ofString "") u) T' → Fr g L h' m → News g L h' T' → Apart (T'.map (·.1)) → Q none { s with heap := h', toks := tk }) :
    wpAny (model Challenge.rw_uc0019_01.row.prog w) A (pyNext (.ref I)) Q E s := by
  have hr : ∀ p ∈ rest, p ∈ led := fun p hp => tk.perm.mem_iff.mpr (List.mem_append_right _ hp)
  refine ci_next hh (N _ (hr _ mI)).1 (N _ (hr _ mq)).1 (F.keep _ _ (X _ _ hf)) (code_le hA (codeAny_mono (frame_call (E := fun _ _ => False) (Q := fun v s' => ∃ T' h' tk, s' = { s with heap := h', toks := tk } ∧ P v T' ∧ Fr g L h' m ∧ News g L h' (T' ++ rest) ∧ Apart ((T' ++ rest).map (·.1))) F N nd tk fun g' hg G => ?_) fun r s' hx => ?_))
  · refine S g' s _ p loose mean mg mb (X.keeps hg) (Tp.keeps hg) G ?_ fun v T' h' tk' hp G' n' => ⟨T', G', n', fun F' N' ND => ⟨T', h', tk', rfl, hp, F', N', ND⟩⟩
    have pm := (tk.perm.map (fun x : Addr × Obj => x.1)).nodup_iff.mp nd
    rw [List.map_append] at pm
    exact (List.nodup_append.mp pm).1
  · rcases r with e | (v | _ | _ | _) <;> first | exact hx.elim | skip
    · obtain ⟨T', h', tk', rfl, hp, F', N', nd'⟩ := hx
      obtain ⟨y, u, rfl⟩ := hs _ _ hp
      refine ⟨(N' _ (List.mem_append_right _ mI)).1, (N' _ (List.mem_append_right _ mq)).1, F'.keep _ _ (X _ _ hf), y, u, rfl, fun hne => h _ T' h' tk' hp (fun u' e => hne (by injection e)) F' N' nd', fun e h'' e1 e2 => ?_⟩
      subst e
      have hIT : ∀ p ∈ T', p.1 ≠ I := fun p hp e => by
        rw [List.map_append] at nd'
        exact (List.nodup_append.mp nd').2.2 p.1 (List.mem_map_of_mem hp) I (List.mem_map.mpr ⟨_, mI, rfl⟩) e
      have hIL := (N' _ (List.mem_append_right _ mI)).2
      refine h0 u T' h'' _ hp ⟨?_, fun b o e => e2 b o (fun q => by rw [q, hIL.2] at e; cases e) (F'.keep b o e), F'.above⟩ (fun p hp => ⟨e2 _ _ (hIT p hp) (N' p (List.mem_append_left _ hp)).1, (N' p (List.mem_append_left _ hp)).2⟩) ?_
      · obtain ⟨o, es, ep, a, b⟩ := F'.ns
        exact ⟨o, es, ep, e2 L o hIL.1.symm a, b⟩
      · rw [List.map_append] at nd'; exact (List.nodup_append.mp nd').1
theorem ci_makeL {prog : Program} {f self : Value} {t : Tok} {led : List (Addr × Obj)} {Q : Value → Shared → Prop} (F : Fr g L s.heap m) (N : News g L s.heap led) (hm : (q, methodObj f self) ∈ led)
    (h : ∀ I h', Fr g L h' m → News g L h' ((I, itOn q t) :: led) → (∀ p ∈ led, p.1 < I) → Q (.ref I) { s with heap := h' }) : wpAny (model prog w) A (call (.builtin "iter") [.ref q, .str (Str.ofString "") t]) Q E s := by
  refine ci_make (N _ hm).1 (h s.heap.objs.size _ (F.keeps fun b o e => Heap.get?_push_of_some _ e) (fun p hp => ?_) (fun p hp => Heap.lt_size (N p hp).1))
  rcases List.mem_cons.mp hp with rfl | hp
  · exact ⟨Heap.get?_push_size _ rfl, (Nat.ne_of_lt F.ns.lt).symm, next_is_new F⟩
  · exact ⟨Heap.get?_push_of_some _ (N p hp).1, (N p hp).2⟩
end
section
variable {prog : Program} {w : World} {A : Around} {g : Heap} {L I : Addr} {env : Env} {x : Str} {px : Pos} {body orelse : List Stmt}
noncomputable def TurnO (g : Heap) (L : Addr) (J : Nat → List (Str × Value) → List (Addr × Obj) → Prop) (k : Nat) (s : Shared) (Q : Flow → Shared → Prop) (f : Flow) (s' : Shared) : Prop :=
  match f with
  | .ret v => Q (.ret v) s'
  | .brk => Q .next s'
  | _ => ∃ j h' tk m V T, j < k ∧ s' = { s with heap := h', toks := tk } ∧ Fr g L h' m ∧ Loc m V ∧ News g L h' T ∧ Apart (T.map (·.1)) ∧ J j V T
theorem turnO_next {J : Nat → List (Str × Value) → List (Addr × Obj) → Prop} {k j : Nat} {s : Shared} {Q : Flow → Shared → Prop} {h' : Heap} {tk : Nat} {m : Str → Option Value} {led rest : List (Addr × Obj)} (F : Fr g L h' m) (N : News g L h' led) (nd : Apart (led.map (·.1)))
    (hj : j < k) (V : List (Str × Value)) (T : List (Addr × Obj)) (jj : J j V T) (l : Loc m V) (tks : TakeAll led T rest) : TurnO g L J k s Q .next { s with heap := h', toks := tk } := by
  obtain ⟨N', nd'⟩ := take2 N nd tks
  exact ⟨j, h', tk, m, V, T, hj, rfl, F, l, N', nd', jj⟩
theorem turnO_cont {J : Nat → List (Str × Value) → List (Addr × Obj) → Prop} {k j : Nat} {s : Shared} {Q : Flow → Shared → Prop} {h' : Heap} {tk : Nat} {m : Str → Option Value} {led rest : List (Addr × Obj)} (F : Fr g L h' m) (N : News g L h' led) (nd : Apart (led.map (·.1)))
    (hj : j < k) (V : List (Str × Value)) (T : List (Addr × Obj)) (jj : J j V T) (l : Loc m V) (tks : TakeAll led T rest) : TurnO g L J k s Q .cont { s with heap := h', toks := tk } := by
  obtain ⟨N', nd'⟩ := take2 N nd tks
  exact ⟨j, h', tk, m, V, T, hj, rfl, F, l, N', nd', jj⟩
noncomputable def ItTurn (prog : Program) (w : World) (A : Around) (env : Env) (x : Str) (body orelse : List Stmt) (Q : Flow → Shared → Prop) (R : Flow → Shared → Prop) (r : Option Value) (s₁ : Shared) : Prop := match r with
  | none => ∀ E', wpAny (model prog w) A (execs orelse env) Q E' s₁
  | some v => ∀ E', wpAny (model prog w) A (storeName env x v) (fun _ s₂ => wpAny (model prog w) A (execs body env) R E' s₂) E' s₁
theorem for_it {s : Shared} {E : Value → Shared → Prop} {q : Addr} {t : Tok} {Q : Flow → Shared → Prop} {m₀ : Str → Option Value} {led rest T₀ : List (Addr × Obj)} (J : Nat → List (Str × Value) → List (Addr × Obj) → Prop) (n : Nat) (V₀ : List (Str × Value))
    (hI : (I, itOn q t) ∈ led) (F : Fr g L s.heap m₀) (l : Loc m₀ V₀) (N' : News g L s.heap led) (nd' : Apart (led.map (·.1))) (hJ : J n V₀ T₀) (tks : TakeAll led T₀ rest)
    (turn : ∀ k m V T h tk (E' : Value → Shared → Prop), J k V T → Fr g L h (over V m) → News g L h T → Apart (T.map (·.1)) →
      wpAny (model prog w) A (pyNext (.ref I)) (ItTurn prog w A env x body orelse Q (TurnO g L J k { s with heap := h, toks := tk } Q)) E' { s with heap := h, toks := tk }) :
    wpAny (model prog w) A (pyIter (.ref I)) (fun it s₂ => codeAny (model prog w) A (.forLoop (.Name x px) it body orelse env) (fun r s' => match r with | .ok f => Q f s' | .error e => cameBackBy (model prog w) A env E e s') s₂) E s := by
  obtain ⟨N, nd⟩ := take2 N' nd' tks
  refine ci_iter (r := .none) (N' _ hI).1 rfl ?_
  refine codeAny_forLoop_any (fun k s' => ∃ h' tk m V T, s' = { s with heap := h', toks := tk } ∧ Fr g L h' m ∧ Loc m V ∧ News g L h' T ∧ Apart (T.map (·.1)) ∧ J k V T) ?_ n ⟨s.heap, s.toks, m₀, V₀, T₀, rfl, F, l, N, nd, hJ⟩
  rintro k s' ⟨h', tk, m, V, T, rfl, F', l', N', nd', j⟩
  rw [← over_same l'.all] at F'
  refine wpAny_mono (turn k m V T h' tk _ j F' N' nd') (fun r s₁ hr => ?_) fun _ _ e => e
  cases r with
  | none => exact wpAny_mono (hr _) (fun f s₃ z => z) fun _ _ e => e
  | some v =>
    refine wpAny_of_eq (show letOwnedTupleGo (.Name x px) (.ref I) v = pure () from rfl) ?_
    refine wpAny_assign_Name (wpAny_mono (hr _) (fun _ s₂ hq => wpAny_mono hq (fun f s₃ z => ?_) fun _ _ e => e) fun _ _ e => e)
    have fin : (∃ j h'' tk' m V T, j < k ∧ s₃ = { s with heap := h'', toks := tk' } ∧ Fr g L h'' m ∧ Loc m V ∧ News g L h'' T ∧ Apart (T.map (·.1)) ∧ J j V T) →
        ∃ j, j < k ∧ ∃ h' tk m V T, s₃ = { s with heap := h', toks := tk } ∧ Fr g L h' m ∧ Loc m V ∧ News g L h' T ∧ Apart (T.map (·.1)) ∧ J j V T := by
      rintro ⟨j, h₅, tk₅, m₅, V₅, T₅, hj, e, r⟩
      exact ⟨j, hj, h₅, tk₅, m₅, V₅, T₅, e, r⟩
    cases f with
    | next => exact fin z
    | cont => exact fin z
    | brk => exact z
    | ret v => exact z
end
end Mine
end
section
open PySem PySem.W PySem.W.X PySem.Calls PyProof.Rows PyProof.Rows.LCg PyProof.Rows.LCt
namespace Mine
noncomputable def isW (c : Nat) : Bool := c == 10 || c == 13 || c == 9 || c == 32
noncomputable def nl (l : List Nat) : Nat := l.count 10
inductive Tail : List Nat → List Nat → List Nat → Prop
  | eof : Tail [] [] []
  | plain {c : Nat} {b r : List Nat} : isW c = false → c ≠ 34 → c ≠ 92 → (∀ d ∈ b, isW d = false ∧ d ≠ 92) → Tail (c :: (b ++ 13 :: r)) (c :: b) r
  | esc {c : Nat} {b r : List Nat} : c ≠ 10 → (∀ d ∈ b, isW d = false ∧ d ≠ 92) → Tail (92 :: c :: (b ++ 13 :: r)) (c :: b) r
  | quo {b r : List Nat} : (∀ d ∈ b, d ≠ 10 ∧ d ≠ 34 ∧ d ≠ 92) → Tail (34 :: (b ++ 34 :: r)) b r
theorem in_wsd : ∀ c : Nat, c < 128 → (!(Builtin.Str.occurrences (Str.ofString "\n\t\r ") (Tx [c]) 0 (Str.ofString "\n\t\r ").length 1).isEmpty) = isW c := by decide +kernel
theorem of_q : Str.ofString "\"" = Tx [34] := by decide +kernel
theorem of_bs : Str.ofString "\\" = Tx [92] := by decide +kernel
section
variable {prog : Program} {w : World} {A : Around} {E : Value → Shared → Prop} {s : Shared} {Q : Value → Shared → Prop} {t u : Tok}
theorem in_ws {c : Nat} {b : Bool} (hc : c < 128) (h : isW c = b) (k : Q (.bool b) s) : wpAny (model prog w) A (compareOp .In (.str (Tx [c]) u) (.str (Str.ofString "\n\t\r ") t)) Q E s :=
  in_str (by rw [in_wsd c hc, h]; exact k)
theorem eq_ch {c d : Nat} {x : Str} {b : Bool} (hx : x = Tx [d]) (h : decide (c = d) = b) (k : Q (.bool b) s) : wpAny (model prog w) A (compareOp .Eq (.str (Tx [c]) t) (.str x u)) Q E s := by
  refine eq_str ?_
  subst hx
  have : (Tx [c] == Tx [d]) = decide (c = d) := by
    by_cases e : c = d
    · subst e; simp
    · simp [e, Tx]
  rw [this, h]; exact k
theorem iadd_tx {a : List Nat} {c : Nat} {x : Str} (hx : x = Tx a) (hl : a.length ≤ 5000) (k : ∀ t' tk, Q (.str (Tx (a ++ [c])) t') { s with toks := tk }) : wpAny (model prog w) A (inplaceOp .Add (.str x t) (.str (Tx [c]) u)) Q E s := by
  subst hx
  refine PyProof.Rows.iadd_str (fun t' tk => by rw [tx_append]; exact k t' tk) (size_line (by rw [tx_len, tx_len]; simp; lia))
end
theorem nl_le (l : List Nat) : nl l ≤ l.length := List.count_le_length
theorem nl_cons (c : Nat) (l : List Nat) : nl l ≤ nl (c :: l) := by unfold nl; rw [List.count_cons]; lia
theorem ln_step {a b : Int} {c : Nat} {l : List Nat} : a + b - (nl l : Int) = if c = 10 then a + b - (nl (c :: l) : Int) + 1 else a + b - (nl (c :: l) : Int) := by
  unfold nl; rw [List.count_cons]; split <;> simp_all <;> lia
theorem ln_same {a b : Int} {c : Nat} (h : c ≠ 10) : (if c = 10 then a + b - (nl [] : Int) + 1 else a + b - (nl [] : Int)) = a + b := by
  rw [if_neg h]; simp [nl]
theorem isW_ten {c : Nat} (h : isW c = false) : c ≠ 10 := by rintro rfl; cases h
theorem st_cons {w : World} {e : St} {tb : Tb} {c : Nat} {cs : List Nat} (h : StOk w e tb (c :: cs)) : ∃ ty ys, e.ys = .str (Tx [c]) ty :: ys ∧ ∀ n, StOk w { e with ys := ys, n := n } tb cs := by
  obtain ⟨h1, h2, h3, h4⟩ := h
  obtain ⟨f1, o1, D, oD, f2, o2, cl, oc, sl, ys, n1⟩ := e
  dsimp only at h3 ⊢
  cases h3 with
  | cons y t r => exact ⟨t, _, rfl, fun n => ⟨h1, h2, r, h4⟩⟩
theorem tx1_ne {c : Nat} {t u : Tok} (h : Value.str (Tx [c]) t = .str (Str.ofString "") u) : False := by
  injection h with h
  rw [of_nil] at h
  have := tx_inj h
  simp at this
theorem neHd : Nonempty Hd := ⟨by constructor <;> first | exact 0 | exact []⟩
theorem neSt : Nonempty St := ⟨by constructor <;> first | exact 0 | exact [] | exact default | exact Classical.choice inferInstance⟩
theorem neTb : Nonempty Tb := ⟨by constructor <;> first | exact 0 | exact [] | exact default⟩
end Mine
end
section
open PySem PySem.W PySem.W.X PySem.Calls PyProof.Rows PyProof.Rows.LCg PyProof.Rows.LCt
namespace Mine
noncomputable def nthS : Nat → List Stmt → Stmt
  | 0, s :: _ => s
  | n + 1, _ :: r => nthS n r
  | _, [] => .Pass ⟨0, 0, 0, 0⟩
noncomputable def inS : Nat → List Stmt → List Stmt
  | 0, .ClassDef _ _ _ b _ _ _ _ _ _ _ :: _ => b
  | 0, .FunctionDef _ _ b _ _ _ _ _ _ _ :: _ => b
  | 0, .For _ _ b _ _ :: _ => b
  | 0, .If _ b _ _ :: _ => b
  | n + 1, _ :: r => inS n r
  | _, _ => []
noncomputable def elS : Nat → List Stmt → List Stmt
  | 0, .If _ _ b _ :: _ => b
  | n + 1, _ :: r => elS n r
  | _, _ => []
noncomputable def defScope : Nat → List Stmt → Scope
  | 0, .FunctionDef _ _ _ _ _ _ sc _ _ _ :: _ => sc
  | n + 1, _ :: r => defScope n r
  | _, _ => { kind := .function, names := [], isGenerator := false, isCoroutine := false }
noncomputable abbrev progB : List Stmt := Challenge.pw_uc0019_01.main.body
theorem fr_loc {g h : Heap} {L : Addr} {m : Str → Option Value} {V : List (Str × Value)} (F : Fr g L h m) (l : Loc m V) : Fr g L h (over V m) := by rw [over_same l.all]; exact F
end Mine
end
section
open PySem PySem.Sre
namespace Mine
noncomputable def code1 : Array Nat := #[14, 4, 0, 1, 1, 6, 1, 16, 46, 1]
noncomputable def code2 : Array Nat := #[14, 9, 4, 1, 2, 16, 10, 16, 13, 0, 7, 7, 16, 13, 16, 10, 15, 18, 5, 16, 10, 15, 13, 11, 16, 13, 5, 5, 0, 16, 10, 1, 15, 2, 0, 1]
noncomputable def Sm (code t : Array Nat) (lim st lst pc pos handed : Nat) (outer : Bool) (fr : List Sre.Frame) (wt : Nat) (ans : Option Bool) (seen : Seen) : M :=
  { code := code, text := t, lim := lim, start := st, lastStart := lst, pc := pc, pos := pos, handed := handed, outermost := outer, marks := #[], frames := fr, weight := wt, answer := ans, seen := seen }
noncomputable def Fin1 (m : M) (st handed : Nat) : Prop := m.outcome = some .matched ∧ m.start = st ∧ m.handed = handed
noncomputable def A1 (t : Array Nat) (lim s : Nat) (o : Bool) (seen : Seen) : M := Sm code1 t lim s lim 5 s s o [{ wait := .nextStart, pc := 5, pos := s, outermost := o }] 1 none seen
theorem run_add (a b : Nat) : ∀ m : M, m.runFor (a + b) = (m.runFor a).runFor b := by
  induction a with
  | zero => intro m; rw [Nat.zero_add]; rfl
  | succ a ih =>
    intro m
    rw [Nat.succ_add]
    by_cases h : m.outcome.isSome = true
    · have e : ∀ k, M.runFor k m = m := fun k => by cases k with
        | zero => rfl
        | succ k => simp only [M.runFor, h, if_true]
      rw [e, e, e]
    · have e : ∀ k, M.runFor (k + 1) m = M.runFor k m.step := fun k => by simp only [M.runFor, h]; rfl
      rw [e, e, ih]
section
variable {code t : Array Nat} {lim st lst pc pos hd wt q s c : Nat} {o o' : Bool} {fr : List Sre.Frame} {seen : Seen}
noncomputable abbrev fS (q s : Nat) (o : Bool) : Sre.Frame := { wait := .nextStart, pc := q, pos := s, outermost := o }
noncomputable abbrev fB (q s : Nat) (o : Bool) : Sre.Frame := { wait := .nextBranch, pc := q, pos := s, outermost := o }
noncomputable abbrev fN (q s : Nat) (o : Bool) : Sre.Frame := { wait := .lookNot, pc := q, pos := s, outermost := o }
theorem goF {m m' : M} {k a b : Nat} (e : m.step = m') (ho : m.outcome = none) (h : Fin1 (M.runFor k m') a b) : Fin1 (M.runFor (k + 1) m) a b := by
  rw [M.runFor, ho, e]; exact h
theorem goE {m m' X : M} {k : Nat} (e : m.step = m') (ho : m.outcome = none) (h : M.runFor k m' = X) : M.runFor (k + 1) m = X := by
  rw [M.runFor, ho, e]; exact h
theorem goO {m m' : M} {k : Nat} {x : Option Sre.Outcome} (e : m.step = m') (ho : m.outcome = none) (h : (M.runFor k m').outcome = x) : (M.runFor (k + 1) m).outcome = x := by
  rw [M.runFor, ho, e]; exact h
theorem e_exec (hz : pc < code.size) : (Sm code t lim st lst pc pos hd o fr wt none seen).step = (Sm code t lim st lst pc pos hd o fr wt none seen).exec := by
  simp [Sm, M.step, hz]
theorem e_lit (hz : pc < code.size) (hw : code[pc]?.getD 0 = 16) (hp : pos < lim) (hc : t[pos]?.getD 0 = code[pc + 1]?.getD 0) :
    (Sm code t lim st lst pc pos hd o fr wt none seen).step = Sm code t lim st lst (pc + 2) (pos + 1) hd o fr wt none (seen.add 16) := by
  rw [e_exec hz]; simp [Sm, M.exec, M.word, ops, accepts, itemWidth, hw, hc, Nat.not_le.mpr hp]
theorem e_litN (hz : pc < code.size) (hw : code[pc]?.getD 0 = 16) (hp : lim ≤ pos ∨ t[pos]?.getD 0 ≠ code[pc + 1]?.getD 0) :
    (Sm code t lim st lst pc pos hd o fr wt none seen).step = Sm code t lim st lst pc pos hd o fr wt (some false) (seen.add 16) := by
  rw [e_exec hz]
  by_cases h : lim ≤ pos
  · simp [Sm, M.exec, M.word, M.say, ops, hw, h]
  · have hc := hp.resolve_left h
    have hb : (t[pos]?.getD 0 == code[pc + 1]?.getD 0) = false := by simpa using hc
    simp [Sm, M.exec, M.word, M.say, ops, accepts, hw, hb, h]
theorem e_at (hz : pc < code.size) (hw : code[pc]?.getD 0 = 6) (hv : code[pc + 1]?.getD 0 = 1) (hp : pos = 0 ∨ t[pos - 1]?.getD 0 = 10) :
    (Sm code t lim st lst pc pos hd o fr wt none seen).step = Sm code t lim st lst (pc + 2) pos hd o fr wt none ((seen.add 6).add 44) := by
  rw [e_exec hz]; simp [Sm, M.exec, M.word, M.isAt, ops, hw, hv, hp]
theorem e_atN (hz : pc < code.size) (hw : code[pc]?.getD 0 = 6) (hv : code[pc + 1]?.getD 0 = 1) (hp : pos ≠ 0) (hp2 : t[pos - 1]?.getD 0 ≠ 10) :
    (Sm code t lim st lst pc pos hd o fr wt none seen).step = Sm code t lim st lst pc pos hd o fr wt (some false) ((seen.add 6).add 44) := by
  rw [e_exec hz]; simp [Sm, M.exec, M.word, M.isAt, M.say, ops, hw, hv, hp, hp2]
theorem e_ok (hz : pc < code.size) (hw : code[pc]?.getD 0 = 1) :
    (Sm code t lim st lst pc pos hd o fr wt none seen).step = Sm code t lim st lst pc pos pos o fr wt (some true) (seen.add 1) := by
  rw [e_exec hz]; simp [Sm, M.exec, M.word, M.say, ops, hw]
theorem e_jmp (hz : pc < code.size) (hw : code[pc]?.getD 0 = 15) :
    (Sm code t lim st lst pc pos hd o fr wt none seen).step = Sm code t lim st lst (pc + 1 + code[pc + 1]?.getD 0) pos hd o fr wt none (seen.add 15) := by
  rw [e_exec hz]; simp [Sm, M.exec, M.word, ops, hw]
theorem e_br (hz : pc < code.size) (hw : code[pc]?.getD 0 = 7) (h0 : code[pc + 1]?.getD 0 ≠ 0) (hwt : wt ≤ 1000) :
    (Sm code t lim st lst pc pos hd o fr wt none seen).step = Sm code t lim st lst (pc + 1 + 1) pos pos o (fB (pc + 1) pos o :: fr) (wt + 1) none (seen.add 7) := by
  have : ¬ 16777216 < wt + 1 := by lia
  rw [e_exec hz]; simp [Sm, M.exec, M.word, M.alternative, M.attempt, M.frame, M.keep, ops, hw, h0, this]
theorem e_not (hz : pc < code.size) (hw : code[pc]?.getD 0 = 5) (h0 : code[pc + 2]?.getD 0 = 0) (hwt : wt ≤ 1000) :
    (Sm code t lim st lst pc pos hd o fr wt none seen).step = Sm code t lim st lst (pc + 3) pos pos false (fN pc pos o :: fr) (wt + 1) none (seen.add 5) := by
  have : ¬ 16777216 < wt + 1 := by lia
  rw [e_exec hz]; simp [Sm, M.exec, M.word, M.attempt, M.frame, M.keep, ops, hw, h0, this]
theorem e_nb (h0 : code[q + code[q]?.getD 0]?.getD 0 ≠ 0) (hwt : wt ≤ 1000) :
    (Sm code t lim st lst pc pos hd o (fB q s o' :: fr) (wt + 1) (some false) seen).step = Sm code t lim st lst (q + code[q]?.getD 0 + 1) s s o' (fB (q + code[q]?.getD 0) s o' :: fr) (wt + 1) none seen := by
  have : ¬ 16777216 < wt + 1 := by lia
  simp [Sm, M.step, M.resume, M.putBack, M.alternative, M.attempt, M.frame, h0, this]
theorem e_nbY : (Sm code t lim st lst pc pos hd o (fB q s o' :: fr) (wt + 1) (some true) seen).step = Sm code t lim st lst q s hd o' fr wt (some true) seen := by
  simp [Sm, M.step, M.resume, M.say]
theorem e_nsY : (Sm code t lim st lst pc pos hd o (fS q s o' :: fr) (wt + 1) (some true) seen).step = Sm code t lim st lst q s hd o' fr wt (some true) seen := by
  simp [Sm, M.step, M.resume, M.say]
theorem e_ln : (Sm code t lim st lst pc pos hd o (fN q s o' :: fr) (wt + 1) (some false) seen).step = Sm code t lim st lst (q + 1 + code[q + 1]?.getD 0) s hd o' fr wt none seen := by
  simp [Sm, M.step, M.resume, M.putBack, M.word]
theorem e_ns (hn : (Sm code t lim st lst q s hd o' [] 0 none seen).hasFirstSet = false) (h : s < lst) :
    (Sm code t lim st lst pc pos hd o [fS q s o'] 1 (some false) seen).step = Sm code t lim (s + 1) lst q (s + 1) (s + 1) false [fS q (s + 1) false] 1 none seen := by
  have hn' : ∀ m : M, m.code = code → m.hasFirstSet = false := fun m e => by unfold M.hasFirstSet at hn ⊢; rw [e]; exact hn
  simp [Sm, M.step, M.resume, M.putBack, M.attemptFrom, M.attemptAt, M.attempt, h, hn']
theorem e_nsE (h : lst ≤ s) : (Sm code t lim st lst pc pos hd o [fS q s o'] 1 (some false) seen).step = Sm code t lim st lst q s hd o' [] 0 (some false) seen := by
  simp [Sm, M.step, M.resume, M.putBack, M.say, Nat.not_lt.mpr h]
theorem e_fin : Fin1 ((Sm code t lim st lst pc pos hd o [] wt (some true) seen).runFor 1) st hd := by
  simp [Fin1, Sm, M.runFor, M.step]
theorem e_fail : ((Sm code t lim st lst pc pos hd o [] wt (some false) seen).runFor 1).outcome = some .failed := by
  simp [Sm, M.runFor, M.step]
end
theorem p1_skip {t : Array Nat} {lim s : Nat} {o : Bool} {seen : Seen} (h1 : s ≠ 0) (h2 : t[s - 1]?.getD 0 ≠ 10) (hs : s < lim) : ∃ seen', (A1 t lim s o seen).runFor 2 = A1 t lim (s + 1) false seen' :=
  ⟨(seen.add 6).add 44, goE (e_atN (by decide) rfl rfl h1 h2) rfl (goE (e_ns rfl hs) rfl rfl)⟩
theorem p1_no {t : Array Nat} {lim s : Nat} {o : Bool} {seen : Seen} (h1 : s = 0 ∨ t[s - 1]?.getD 0 = 10) (h2 : t[s]?.getD 0 ≠ 46) (hs : s < lim) : ∃ seen', (A1 t lim s o seen).runFor 3 = A1 t lim (s + 1) false seen' :=
  ⟨((seen.add 6).add 44).add 16, goE (e_at (by decide) rfl rfl h1) rfl (goE (e_litN (by decide) rfl (.inr h2)) rfl (goE (e_ns rfl hs) rfl rfl))⟩
theorem p1_end {t : Array Nat} {lim : Nat} {o : Bool} {seen : Seen} : ((A1 t lim lim o seen).runFor 4).outcome = some .failed := by
  have done : ∀ (k : Nat) (m : M), m.outcome = some .failed → (m.runFor k).outcome = some .failed := fun k m h => by cases k with
    | zero => exact h
    | succ k => simp [M.runFor, h]
  by_cases h : lim = 0 ∨ t[lim - 1]?.getD 0 = 10
  · exact goO (e_at (by decide) rfl rfl h) rfl (goO (e_litN (by decide) rfl (.inl (Nat.le_refl _))) rfl (goO (e_nsE (Nat.le_refl _)) rfl e_fail))
  · have h2 := not_or.mp h
    rw [show (4 : Nat) = 3 + 1 from rfl, run_add]
    exact done 1 _ (goO (e_atN (by decide) rfl rfl h2.1 h2.2) rfl (goO (e_nsE (Nat.le_refl _)) rfl e_fail))
theorem p1_yes {t : Array Nat} {lim s : Nat} {o : Bool} {seen : Seen} (h1 : s = 0 ∨ t[s - 1]?.getD 0 = 10) (h2 : t[s]?.getD 0 = 46) (hs : s < lim) : Fin1 ((A1 t lim s o seen).runFor 5) s (s + 1) :=
  goF (e_at (by decide) rfl rfl h1) rfl (goF (e_lit (by decide) rfl hs h2) rfl (goF (e_ok (by decide) rfl) rfl (goF e_nsY rfl e_fin)))
end Mine
end
section
open PySem PySem.Sre
namespace Mine
noncomputable def A2 (t : Array Nat) (lim s : Nat) (o : Bool) (seen : Seen) : M := Sm code2 t lim s lim 10 s s o [{ wait := .nextStart, pc := 10, pos := s, outermost := o }] 1 none seen
theorem fin_more {m : M} {k a b : Nat} (j : Nat) (h : Fin1 (m.runFor k) a b) : Fin1 (m.runFor (k + j)) a b := by
  rw [run_add]
  cases j with
  | zero => exact h
  | succ j =>
    have e : (M.runFor (j + 1) (m.runFor k)) = m.runFor k := by simp [M.runFor, h.1]
    rw [e]; exact h
theorem p2_crlf {t : Array Nat} {lim s : Nat} {o : Bool} {seen : Seen} (h1 : t[s]?.getD 0 = 13) (h2 : t[s + 1]?.getD 0 = 10) (hs : s + 1 < lim) : Fin1 ((A2 t lim s o seen).runFor 9) s (s + 2) :=
  fin_more (k := 8) 1 (goF (e_br (by decide) rfl (by decide) (by decide)) rfl (goF (e_lit (by decide) rfl (by lia) h1) rfl (goF (e_lit (by decide) rfl hs h2) rfl (goF (e_jmp (by decide) rfl) rfl (goF (e_ok (by decide) rfl) rfl (goF e_nbY rfl (goF e_nsY rfl e_fin)))))))
theorem p2_lf {t : Array Nat} {lim s : Nat} {o : Bool} {seen : Seen} (h1 : t[s]?.getD 0 = 10) (hs : s < lim) : Fin1 ((A2 t lim s o seen).runFor 9) s (s + 1) :=
  goF (e_br (by decide) rfl (by decide) (by decide)) rfl (goF (e_litN (by decide) rfl (.inr (by rw [h1]; decide))) rfl (goF (e_nb (by decide) (by decide)) rfl (goF (e_lit (by decide) rfl hs h1) rfl (goF (e_jmp (by decide) rfl) rfl (goF (e_ok (by decide) rfl) rfl (goF e_nbY rfl (goF e_nsY rfl e_fin)))))))
theorem p2_cr {t : Array Nat} {lim s : Nat} {o : Bool} {seen : Seen} (h1 : t[s]?.getD 0 = 13) (h2 : t[s + 1]?.getD 0 ≠ 10) (hs : s < lim) : Fin1 ((A2 t lim s o seen).runFor 16) s (s + 1) :=
  fin_more (k := 15) 1 (goF (e_br (by decide) rfl (by decide) (by decide)) rfl (goF (e_lit (by decide) rfl hs h1) rfl (goF (e_litN (by decide) rfl (.inr h2)) rfl (goF (e_nb (by decide) (by decide)) rfl (goF (e_litN (by decide) rfl (.inr (by rw [h1]; decide))) rfl (goF (e_nb (by decide) (by decide)) rfl (goF (e_lit (by decide) rfl hs h1) rfl (goF (e_not (by decide) rfl rfl (by decide)) rfl (goF (e_litN (by decide) rfl (.inr h2)) rfl (goF e_ln rfl (goF (e_jmp (by decide) rfl) rfl (goF (e_ok (by decide) rfl) rfl (goF e_nbY rfl (goF e_nsY rfl e_fin))))))))))))))
end Mine
end
section
open PySem PySem.Sre
namespace Mine
theorem stable {m : M} (h : m.outcome.isSome = true) : ∀ k, M.runFor k m = m := fun k => by cases k with
  | zero => rfl
  | succ k => simp only [M.runFor, h, if_true]
noncomputable def seen0 : Seen := ({} : Seen).add 14
theorem fs1 {t : Array Nat} {lim s : Nat} : forSearch code1 t 0 s lim false = if (decide (s > lim) || decide (lim - s < 1)) = true then Sm code1 t lim s 0 5 s s true [] 0 (some false) seen0 else A1 t lim s true seen0 := by rfl
theorem fs2 {t : Array Nat} {lim s : Nat} : forSearch code2 t 0 s lim false = if (decide (s > lim) || decide (lim - s < 1)) = true then Sm code2 t lim s 0 10 s s true [] 0 (some false) seen0 else (Sm code2 t lim s lim 10 s s true [] 0 none seen0).attemptFrom s true := by rfl
theorem said {code t : Array Nat} {lim s lst pc : Nat} {seen : Seen} : ((Sm code t lim s lst pc s s true [] 0 (some false) seen).runFor 1).outcome = some .failed := by
  simp [Sm, M.runFor, M.step]
noncomputable def is1 (t : Array Nat) (p : Nat) : Prop := (p = 0 ∨ t[p - 1]?.getD 0 = 10) ∧ t[p]?.getD 0 = 46
theorem p1_next {t : Array Nat} {lim s : Nat} {o : Bool} {seen : Seen} (h : ¬ is1 t s) (hs : s < lim) : ∃ n seen', n ≤ 3 ∧ (A1 t lim s o seen).runFor n = A1 t lim (s + 1) false seen' := by
  unfold is1 at h
  by_cases h1 : s = 0 ∨ t[s - 1]?.getD 0 = 10
  · obtain ⟨q, e⟩ := p1_no (o := o) (seen := seen) h1 (fun e => h ⟨h1, e⟩) hs
    exact ⟨3, q, by lia, e⟩
  · obtain ⟨q, e⟩ := p1_skip (o := o) (seen := seen) (fun e => h1 (.inl e)) (fun e => h1 (.inr e)) hs
    exact ⟨2, q, by lia, e⟩
theorem p1_to {t : Array Nat} {lim : Nat} : ∀ (k s : Nat) (o : Bool) (seen : Seen), (∀ q, s ≤ q → q < s + k → ¬ is1 t q) → s + k ≤ lim → ∃ n o' seen', n ≤ 3 * k ∧ (A1 t lim s o seen).runFor n = A1 t lim (s + k) o' seen'
  | 0, s, o, seen, _, _ => ⟨0, o, seen, by lia, rfl⟩
  | k + 1, s, o, seen, h, hl => by
    obtain ⟨n1, s1, h1, e1⟩ := p1_next (o := o) (seen := seen) (h s (Nat.le_refl _) (by lia)) (show s < lim by lia)
    have hq : ∀ q, s + 1 ≤ q → q < s + 1 + k → ¬ is1 t q := by
      intro q a b
      have b' : q < s + (k + 1) := by lia
      exact h q (by lia) b'
    have hl' : s + 1 + k ≤ lim := by lia
    obtain ⟨n2, o2, s2, h2, e2⟩ := p1_to k (s + 1) false s1 hq hl'
    exact ⟨n1 + n2, o2, s2, by lia, by rw [run_add, e1, e2, Nat.add_assoc, Nat.add_comm 1 k]⟩
theorem search1_yes {t : Array Nat} {lim s p : Nat} (hsp : s ≤ p) (hp : p < lim) (h : is1 t p) (hn : ∀ q, s ≤ q → q < p → ¬ is1 t q) : ∃ n, n ≤ 3 * lim + 10 ∧ Fin1 ((forSearch code1 t 0 s lim false).runFor n) p (p + 1) := by
  rw [fs1, if_neg (by simp; lia)]
  obtain ⟨n, o, q, h1, e⟩ := p1_to (t := t) (lim := lim) (p - s) s true seen0 (fun q a b => hn q a (by lia)) (by lia)
  refine ⟨n + 5, by lia, ?_⟩
  rw [run_add, e, show s + (p - s) = p by lia]
  exact p1_yes h.1 h.2 hp
theorem search1_no {t : Array Nat} {lim s : Nat} (hn : ∀ q, s ≤ q → q < lim → ¬ is1 t q) : ∃ n, n ≤ 3 * lim + 10 ∧ ((forSearch code1 t 0 s lim false).runFor n).outcome = some .failed := by
  rw [fs1]
  by_cases hs : s < lim
  · rw [if_neg (by simp; lia)]
    obtain ⟨n, o, q, h1, e⟩ := p1_to (t := t) (lim := lim) (lim - s) s true seen0 (fun q a b => hn q a (by lia)) (by lia)
    refine ⟨n + 4, by lia, ?_⟩
    rw [run_add, e, show s + (lim - s) = lim by lia]
    exact p1_end
  · rw [if_pos (by simp; lia)]
    exact ⟨1, by lia, said⟩
noncomputable def is2 (t : Array Nat) (p : Nat) : Prop := t[p]?.getD 0 = 10 ∨ t[p]?.getD 0 = 13
theorem inset2 {c : Nat} {seen : Seen} : ∃ seen', inSet code2 c code2.size 5 true seen = .ok (c == 10 || c == 13, seen') := by
  have e : inSet code2 c code2.size 5 true seen = if (c == 10) = true then .ok (true, seen.add 16) else if (c == 13) = true then .ok (true, (seen.add 16).add 16) else .ok (false, ((seen.add 16).add 16).add 0) := rfl
  rw [e]
  cases c == 10 <;> cases c == 13 <;> exact ⟨_, rfl⟩
theorem adm_no {t : Array Nat} {lim : Nat} {m : M} (hc : m.code = code2) (ht : m.text = t) (hl : m.lim = lim) : ∀ (f s : Nat) (seen : Seen), lim + 1 - s ≤ f → (∀ q, s ≤ q → q < lim → ¬ is2 t q) → ∃ seen', M.admitted m f s seen = .ok (none, seen')
  | 0, s, seen, hf, h => ⟨seen, rfl⟩
  | f + 1, s, seen, hf, h => by
    unfold M.admitted
    by_cases hs : s ≥ m.lim
    · rw [if_pos hs]; exact ⟨seen, rfl⟩
    · rw [if_neg hs, hc]
      obtain ⟨s1, e⟩ := inset2 (c := m.text.getD s 0) (seen := seen)
      rw [e]
      have hq := h s (Nat.le_refl _) (by lia)
      have hb : (m.text.getD s 0 == 10 || m.text.getD s 0 == 13) = false := by
        unfold is2 at hq
        rw [ht]
        simp at hq ⊢
        exact hq
      rw [hb]
      dsimp only
      exact adm_no hc ht hl f (s + 1) s1 (by lia) fun q a b => h q (by lia) b
theorem adm_yes {t : Array Nat} {lim p : Nat} {m : M} (hc : m.code = code2) (ht : m.text = t) (hl : m.lim = lim) (hp : p < lim) (h2 : is2 t p) : ∀ (f s : Nat) (seen : Seen), lim + 1 - s ≤ f → s ≤ p → (∀ q, s ≤ q → q < p → ¬ is2 t q) → ∃ seen', M.admitted m f s seen = .ok (some p, seen')
  | 0, s, seen, hf, hsp, h => by lia
  | f + 1, s, seen, hf, hsp, h => by
    unfold M.admitted
    rw [if_neg (by lia), hc]
    obtain ⟨s1, e⟩ := inset2 (c := m.text.getD s 0) (seen := seen)
    rw [e]
    rcases Nat.lt_or_ge s p with hlt | hge
    · have hq := h s (Nat.le_refl _) hlt
      have hb : (m.text.getD s 0 == 10 || m.text.getD s 0 == 13) = false := by
        unfold is2 at hq
        rw [ht]
        simp at hq ⊢
        exact hq
      rw [hb]
      dsimp only
      exact adm_yes hc ht hl hp h2 f (s + 1) s1 (by lia) (by lia) fun q a b => h q (by lia) b
    · obtain rfl : s = p := by lia
      have hb : (m.text.getD s 0 == 10 || m.text.getD s 0 == 13) = true := by
        unfold is2 at h2
        rw [ht]
        simp at h2 ⊢
        exact h2
      rw [hb]
      exact ⟨_, rfl⟩
theorem af_no {t : Array Nat} {lim s : Nat} (h : ∀ q, s ≤ q → q < lim → ¬ is2 t q) : ((M.attemptFrom (Sm code2 t lim s lim 10 s s true [] 0 none seen0) s true).runFor 1).outcome = some .failed := by
  have hf : M.hasFirstSet (Sm code2 t lim s lim 10 s s true [] 0 none seen0) = true := rfl
  unfold M.attemptFrom
  rw [hf]
  obtain ⟨q, e⟩ := adm_no (m := Sm code2 t lim s lim 10 s s true [] 0 none seen0) rfl rfl rfl (lim + 1 - s) s seen0 (Nat.le_refl _) h
  have e' : M.admitted (Sm code2 t lim s lim 10 s s true [] 0 none seen0) ((Sm code2 t lim s lim 10 s s true [] 0 none seen0).lim + 1 - s) s (Sm code2 t lim s lim 10 s s true [] 0 none seen0).seen = .ok (none, q) := e
  rw [e']
  simp [Sm, M.runFor, M.step, M.say]
theorem af_yes {t : Array Nat} {lim s p : Nat} (hsp : s ≤ p) (hp : p < lim) (h2 : is2 t p) (h : ∀ q, s ≤ q → q < p → ¬ is2 t q) : ∃ seen, M.attemptFrom (Sm code2 t lim s lim 10 s s true [] 0 none seen0) s true = A2 t lim p true seen := by
  have hf : M.hasFirstSet (Sm code2 t lim s lim 10 s s true [] 0 none seen0) = true := rfl
  unfold M.attemptFrom
  rw [hf]
  obtain ⟨q, e⟩ := adm_yes (m := Sm code2 t lim s lim 10 s s true [] 0 none seen0) rfl rfl rfl hp h2 (lim + 1 - s) s seen0 (Nat.le_refl _) hsp h
  have e' : M.admitted (Sm code2 t lim s lim 10 s s true [] 0 none seen0) ((Sm code2 t lim s lim 10 s s true [] 0 none seen0).lim + 1 - s) s (Sm code2 t lim s lim 10 s s true [] 0 none seen0).seen = .ok (some p, q) := e
  rw [e']
  exact ⟨q, by simp [Sm, A2, M.attemptAt, M.attempt]⟩
noncomputable def end2 (t : Array Nat) (p : Nat) : Nat := if t[p]?.getD 0 = 13 ∧ t[p + 1]?.getD 0 = 10 then p + 2 else p + 1
theorem search2_yes {t : Array Nat} {lim s p : Nat} (hz : lim = t.size) (hsp : s ≤ p) (hp : p < lim) (h : is2 t p) (hn : ∀ q, s ≤ q → q < p → ¬ is2 t q) : ∃ n, n ≤ 3 * lim + 16 ∧ Fin1 ((forSearch code2 t 0 s lim false).runFor n) p (end2 t p) := by
  rw [fs2, if_neg (by simp; lia)]
  obtain ⟨q, e⟩ := af_yes hsp hp h hn
  rw [e]
  unfold end2
  rcases h with h | h
  · exact ⟨9, by lia, by rw [if_neg (by rw [h]; simp)]; exact p2_lf h hp⟩
  · by_cases h3 : t[p + 1]?.getD 0 = 10
    · refine ⟨9, by lia, ?_⟩
      rw [if_pos ⟨h, h3⟩]
      refine p2_crlf h h3 ?_
      rcases Nat.lt_or_ge (p + 1) lim with q | q
      · exact q
      · rw [Array.getElem?_eq_none (by lia)] at h3; simp at h3
    · exact ⟨16, by lia, by rw [if_neg (fun x => h3 x.2)]; exact p2_cr h h3 hp⟩
theorem search2_no {t : Array Nat} {lim s : Nat} (hn : ∀ q, s ≤ q → q < lim → ¬ is2 t q) : ∃ n, n ≤ 3 * lim + 16 ∧ ((forSearch code2 t 0 s lim false).runFor n).outcome = some .failed := by
  rw [fs2]
  split
  · exact ⟨1, by lia, said⟩
  · exact ⟨1, by lia, af_no hn⟩
end Mine
end
section
open PySem PySem.W PySem.W.X PySem.Calls PyProof.Rows Builtin Builtin.Re
namespace Mine
section
variable {prog : Program} {w : World} {A : Around} {E : Value → Shared → Prop} {s : Shared}
theorem re_drive {M : Model} {Q : Sre.M → Shared → Prop} : ∀ (turns : Nat) (m : Sre.M) (n : Nat), n < 4 * turns → (m.runFor n).outcome.isSome = true → Q (m.runFor n) s → wpAny M A (reDrive turns m) Q E s
  | 0, m, n, h, _, _ => by lia
  | turns + 1, m, n, hn, ho, hq => by
    unfold reDrive
    dsimp only [reTurnSteps]
    by_cases h4 : (m.runFor 4).outcome.isSome = true
    · rw [if_pos h4]
      refine wpAny_pure ?_
      rcases Nat.le_total n 4 with h | h
      · have e := run_add n (4 - n) m
        rw [show n + (4 - n) = 4 by lia] at e
        rw [e, stable ho]; exact hq
      · have e := run_add 4 (n - 4) m
        rw [show 4 + (n - 4) = n by lia] at e
        rw [e, stable h4] at hq; exact hq
    · rw [if_neg h4]
      have h : 4 < n := by
        rcases Nat.lt_or_ge 4 n with h | h
        · exact h
        · have e := run_add n (4 - n) m
          rw [show n + (4 - n) = 4 by lia, stable ho] at e
          rw [e] at h4; exact absurd ho h4
      have e := run_add 4 (n - 4) m
      rw [show 4 + (n - 4) = n by lia] at e
      refine wpAny_bind (wpAny_rule ?_)
      refine re_drive turns (m.runFor 4) (n - 4) (by lia) ?_ ?_
      · rw [← e]; exact ho
      · rw [← e]; exact hq
theorem re_rules {M : Model} {c : Nat → Bool} {f : Nat → String} {Q : PUnit → Shared → Prop} (h : Q ⟨⟩ s) : ∀ l : List Nat, wpAny M A (forIn (m := Sem) l PUnit.unit fun i (_ : PUnit) => do
      if c i then rule (f i)
      pure (ForInStep.yield PUnit.unit)) Q E s
  | [] => by simp only [List.forIn_nil]; exact wpAny_pure h
  | a :: l => by
    rw [List.forIn_cons]
    refine wpAny_bind ?_
    split
    · exact wpAny_bind (wpAny_rule (wpAny_pure (re_rules h l)))
    · exact wpAny_pure (re_rules h l)
theorem re_run_yes {M : Model} {m : Sre.M} {n p e : Nat} {Q : Option Sre.M → Shared → Prop} (hn : n ≤ 100000) (h : Fin1 (m.runFor n) p e) (k : ∀ m', Fin1 m' p e → Q (some m') s) : wpAny M A (reRunToEnd m) Q E s := by
  unfold reRunToEnd
  refine wpAny_bind (re_drive (2 ^ 64) m n (by lia) (by rw [h.1]; rfl) ?_)
  refine wpAny_bind (re_rules (c := fun i => (Sre.M.runFor n m).seen.has i) (f := fun i => Sre.names.getD i "") ?_ _)
  rw [h.1]
  exact wpAny_pure (k _ h)
theorem re_run_no {M : Model} {m : Sre.M} {n : Nat} {Q : Option Sre.M → Shared → Prop} (hn : n ≤ 100000) (h : (m.runFor n).outcome = some .failed) (k : Q none s) : wpAny M A (reRunToEnd m) Q E s := by
  unfold reRunToEnd
  refine wpAny_bind (re_drive (2 ^ 64) m n (by lia) (by rw [h]; rfl) ?_)
  refine wpAny_bind (re_rules (c := fun i => (Sre.M.runFor n m).seen.has i) (f := fun i => Sre.names.getD i "") ?_ _)
  rw [h]
  exact wpAny_pure k
theorem re_target {P C : Addr} {vs cs : Array Value} {n : Nat} {code : Array Nat} {x : Str} {t : Tok} {Q : ReTarget → Shared → Prop} (hP : s.heap.get? P = some ⟨.type "re.Pattern", none, .fields vs, #[]⟩) (h5 : vs.getD 5 .none = .ref C) (h6 : reRawNat (vs.getD 6 .none) = 0) (h2 : reRawNat (vs.getD 2 .none) = 0)
    (hC : s.heap.get? C = some ⟨.type "tuple", none, .seq cs n, #[]⟩) (hcode : (cs.map reRawOf).map (·.toNat) = code) (h : Q ⟨.ref P, .str x t, code, x.cps, 0, 0, 0, x.cps.size⟩ s) : wpAny (model prog w) A (reWholeTarget (.ref P) (.str x t)) Q E s := by
  unfold reWholeTarget
  repeat (any_goals (first | assumption | wp_step))
  rw [h6, if_neg (by decide)]
  dsimp only
  refine wpAny_bind (m := reNoCollectionInside _ _) ?_
  rw [show reNoCollectionInside (.str x t) 0 = pure () from rfl]
  refine wpAny_pure (wpAny_bind ?_)
  rw [h5]
  unfold reRawItems
  refine wpAny_bind (wpAny_seqItems hC rfl (wpAny_pure ?_))
  refine wpAny_pure ?_
  dsimp only [Option.getD_some]
  rw [hcode, h2]; exact h
theorem push_seq {M : Model} {pl : Addr} {ps : List Value} {c : Nat} {v : Value} {Q : Unit → Shared → Prop} (h : s.heap.get? pl = some (PySem.W.listOf ps.toArray c)) (hz : ps.length ≤ 50000)
    (k : ∀ h' c', h'.get? pl = some (PySem.W.listOf (ps ++ [v]).toArray c') → (∀ b o, b ≠ pl → s.heap.get? b = some o → h'.get? b = some o) → Q () { s with heap := h' }) : wpAny M A (updateSeq pl (·.push v)) Q E s := by
  have e := Heap.get?_update_self (Obj.mapSeq (·.push v)) h rfl
  refine wpAny_updateSeq h rfl ?_ (by rw [List.size_toArray]; exact size_line (by lia)) (by rw [Array.size_push, List.size_toArray]; exact Nat.le_succ_of_le (size_line (by lia)))
  obtain ⟨c', hc⟩ : ∃ c', Obj.mapSeq (·.push v) (PySem.W.listOf ps.toArray c) = PySem.W.listOf (ps.toArray.push v) c' := ⟨_, rfl⟩
  refine k _ c' (e.trans ?_) fun b o hb e => (Heap.get?_update_ne _ _ _ _ hb).trans e
  rw [← List.push_toArray, hc]
theorem entry_loop : entryFor table "re.Pattern.sub.loop" = some Builtin.«re.Pattern.sub.loop» := by first | exact entryFor_of_tree (by kernel_rfl) | exact entryFor_of_fast (by kernel_rfl)
theorem sub_turn {P pl : Addr} {vs cs : Array Value} {n nn cc : Nat} {code : Array Nat} {x rep : Str} {t u : Tok} {R : Result → Shared → Prop} {ps : List Value} {k : Nat}
    (hP : s.heap.get? P = some ⟨.type "re.Pattern", none, .fields vs, #[]⟩) {C : Addr} (h5 : vs.getD 5 .none = .ref C) (h6 : reRawNat (vs.getD 6 .none) = 0) (h2 : reRawNat (vs.getD 2 .none) = 0)
    (hC : s.heap.get? C = some ⟨.type "tuple", none, .seq cs n, #[]⟩) (hcode : (cs.map reRawOf).map (·.toNat) = code)
    {j p e : Nat} (hj : j ≤ 100000) (hf : Fin1 ((Sre.forSearch code x.cps 0 k x.cps.size false).runFor j) p e) (hpe : p < e) (_hkp : k ≤ p) (hsz : x.cps.size ≤ 10000) (hps : ps.length ≤ 20000)
    (hpl : s.heap.get? pl = some (PySem.W.listOf ps.toArray cc))
    (hnext : ∀ h' tk ps' c', h'.get? pl = some (PySem.W.listOf (ps ++ ps' ++ [Value.str rep u]).toArray c') → (if k < p then ∃ t', ps' = [Value.str ⟨x.cps.extract k p⟩ t'] else ps' = []) → (∀ b o, b ≠ pl → s.heap.get? b = some o → h'.get? b = some o) →
      codeAny (model prog w) A (.builtin "re.Pattern.sub.loop" ⟨[.ref P, .str x t, .str rep u, rawInt 0, rawInt 0, rawInt ((nn : Int) + 1), rawInt e, rawInt e, .bool false, .ref pl, .bool false], []⟩) R { s with heap := h', toks := tk }) :
    codeAny (model prog w) A (.builtin "re.Pattern.sub.loop" ⟨[.ref P, .str x t, .str rep u, rawInt 0, rawInt 0, rawInt (nn : Int), rawInt k, rawInt k, .bool false, .ref pl, .bool false], []⟩) R s := by
  refine codeAny_builtin entry_loop ?_
  unfold «re.Pattern.sub.loop»
  dsimp only [rawInt]
  refine wpAny_bind (re_target hP h5 h6 h2 hC hcode ?_)
  rw [if_pos (by decide)]
  refine wpAny_bind (m := reLiteralCannotBeTurned _) ?_
  rw [show reLiteralCannotBeTurned (.str rep u) = pure () from rfl]
  refine wpAny_pure ?_
  rw [if_neg (show ¬ (((0 : Int) != 0 && decide ((nn : Int) ≥ 0)) = true) from by rw [show ((0 : Int) != 0) = false from rfl, Bool.false_and]; exact Bool.false_ne_true)]
  refine wpAny_bind (m := reNextFound _ _ _) ?_
  unfold reNextFound
  dsimp only
  rw [Int.toNat_natCast]
  refine re_run_yes hj hf fun m' hm => ?_
  dsimp only
  rw [hm.2.1, hm.2.2]
  have hnb : (e == p) = false := by simp; lia
  rw [hnb]
  by_cases hlt : k < p
  · rw [if_pos hlt]
    refine wpAny_bind (m := reSlice _ _ _ _) ?_
    show wpAny _ _ (mkStr ⟨x.cps.extract k p⟩) _ _ _
    refine wpAny_mkStr ?_ (size_line (by show (x.cps.extract k p).size ≤ 100000; rw [Array.size_extract]; lia))
    refine wpAny_bind (m := updateSeq _ _) (push_seq hpl (by lia) fun h1 c1 e1 k1 => ?_)
    rw [if_pos (by decide)]
    refine wpAny_bind (wpAny_pure ?_)
    rw [if_pos (show (Value.str rep u != Value.none) = true from rfl)]
    refine wpAny_bind (m := updateSeq _ _) (push_seq (ps := ps ++ [Value.str ⟨x.cps.extract k p⟩ s.toks]) e1 (by simp; lia) fun h2 c2 e2 k2 => ?_)
    refine wpAny_pure ⟨Code.quiet_builtin _ (by decide +kernel), hnext h2 _ [Value.str ⟨x.cps.extract k p⟩ s.toks] c2 e2 (by rw [if_pos hlt]; exact ⟨_, rfl⟩) fun b o hb e => k2 b o hb (k1 b o hb e)⟩
  · rw [if_neg hlt, if_pos (by decide)]
    refine wpAny_bind (wpAny_pure ?_)
    rw [if_pos (show (Value.str rep u != Value.none) = true from rfl)]
    refine wpAny_bind (m := updateSeq _ _) (push_seq hpl (by lia) fun h2 c2 e2 k2 => ?_)
    refine wpAny_pure ⟨Code.quiet_builtin _ (by decide +kernel), hnext h2 _ [] c2 (by simpa using e2) (by rw [if_neg hlt]) k2⟩
theorem join_is {D : Addr} {vs : List Value} {ls : List (List Nat)} {t : Tok} {Q : Value → Shared → Prop} (hm : s.heap.IsList D vs.toArray) (hi : TxsAre vs ls) (hw : (ls.map List.length).sum + ls.length ≤ 100000)
    (h : ∀ t' k, Q (.str (Tx ls.flatten) t') { s with toks := k }) : wpAny (model prog w) A (call (.builtin "str.join") [.str (Tx []) t, .ref D]) Q E s := by
  refine join_listW hm (by simpa using hi) (by rw [tx_len]; simp) ?_ fun t' k => ?_
  · rw [List.map_map, show (fun x : Str => x.length) ∘ Tx = List.length from funext fun l => tx_len l, List.length_map]; lia
  · have q := tx_join [] ls
    have e : Txt.join (Tx []) (ls.map Tx) = Tx (joinL [] ls) := (StrLaws.glued_eq_join _ _).trans q
    rw [e, join0]; exact h t' k
theorem sub_tail {pl : Addr} {x : Str} {cc : Nat} {nn : Int} {qs : List Value} {ls : List (List Nat)} {Q : Fin → Shared → Prop} (hpl : s.heap.get? pl = some (PySem.W.listOf qs.toArray cc)) (hq : TxsAre qs ls) (hw : (ls.map List.length).sum + ls.length ≤ 100000)
    (h : ∀ t' tk, Q (.done (.ret (.str (Tx ls.flatten) t'))) { s with toks := tk }) :
    wpAny (model prog w) A (do
      let joiner ← reSlice x.cps 0 0 0
      let l ← seqItems? (.ref pl)
      if (l.getD #[]).isEmpty = true then do
          let text ← pure joiner
          if false = true then do
              let v ← holding [text] do
                    let k ← mkInt nn
                    newTuple [text, k]
              ret v
            else ret text
        else do
          let text ← call (Value.builtin (if (0 == 0) = true then "str.join" else "bytes.join")) [joiner, Value.ref pl]
          if false = true then do
              let v ← holding [text] do
                    let k ← mkInt nn
                    newTuple [text, k]
              ret v
            else ret text) Q E s := by
  refine wpAny_bind (m := reSlice _ _ _ _) ?_
  show wpAny _ _ (mkStr ⟨x.cps.extract 0 0⟩) _ _ _
  have he : (⟨x.cps.extract 0 0⟩ : Str) = Tx [] := by simp [Tx]
  rw [he]
  refine wpAny_mkStr ?_ (size_line (by rw [tx_len]; simp))
  refine wpAny_bind (m := seqItems? _) (wpAny_seqItems hpl rfl ?_)
  dsimp only [Option.getD_some]
  cases qs with
  | nil =>
    cases ls with
    | cons a r => cases hq
    | nil =>
      rw [if_pos (by rfl)]
      refine wpAny_bind (wpAny_pure ?_)
      rw [if_neg (by decide)]
      exact wpAny_pure (h _ _)
  | cons q r =>
    rw [if_neg (by simp)]
    refine wpAny_bind ?_
    rw [show (if ((0 : Nat) == 0) = true then "str.join" else "bytes.join") = "str.join" from rfl]
    refine join_is ⟨_, hpl, rfl, _, rfl⟩ hq hw fun t' k => ?_
    rw [if_neg (by decide)]
    exact wpAny_pure (h _ _)
theorem sub_end {P pl : Addr} {vs cs : Array Value} {n nn cc : Nat} {code : Array Nat} {x : Str} {rep : Str} {t u : Tok} {R : Result → Shared → Prop} {ps : List Value} {k : Nat} {ls : List (List Nat)}
    (hP : s.heap.get? P = some ⟨.type "re.Pattern", none, .fields vs, #[]⟩) {C : Addr} (h5 : vs.getD 5 .none = .ref C) (h6 : reRawNat (vs.getD 6 .none) = 0) (h2 : reRawNat (vs.getD 2 .none) = 0)
    (hC : s.heap.get? C = some ⟨.type "tuple", none, .seq cs n, #[]⟩) (hcode : (cs.map reRawOf).map (·.toNat) = code)
    {j : Nat} (hj : j ≤ 100000) (hf : ((Sre.forSearch code x.cps 0 k x.cps.size false).runFor j).outcome = some .failed) (hsz : x.cps.size ≤ 10000) (hps : ps.length ≤ 20000)
    (hpl : s.heap.get? pl = some (PySem.W.listOf ps.toArray cc)) (hls : TxsAre ps ls) (hw : (ls.map List.length).sum ≤ 30000)
    (hnext : ∀ h' tk t', (∀ b o, b ≠ pl → s.heap.get? b = some o → h'.get? b = some o) →
      R (.ok (.ret (.str (Tx (ls.flatten ++ x.cps.toList.drop k)) t'))) { s with heap := h', toks := tk }) :
    codeAny (model prog w) A (.builtin "re.Pattern.sub.loop" ⟨[.ref P, .str x t, .str rep u, rawInt 0, rawInt 0, rawInt (nn : Int), rawInt k, rawInt k, .bool false, .ref pl, .bool false], []⟩) R s := by
  refine codeAny_builtin entry_loop ?_
  unfold «re.Pattern.sub.loop»
  dsimp only [rawInt]
  refine wpAny_bind (re_target hP h5 h6 h2 hC hcode ?_)
  rw [if_pos (by decide)]
  refine wpAny_bind (m := reLiteralCannotBeTurned _) ?_
  rw [show reLiteralCannotBeTurned (.str rep u) = pure () from rfl]
  refine wpAny_pure ?_
  rw [if_neg (show ¬ (((0 : Int) != 0 && decide ((nn : Int) ≥ 0)) = true) from by rw [show ((0 : Int) != 0) = false from rfl, Bool.false_and]; exact Bool.false_ne_true)]
  refine wpAny_bind (m := reNextFound _ _ _) ?_
  unfold reNextFound
  dsimp only
  rw [Int.toNat_natCast]
  refine re_run_no hj hf ?_
  dsimp only
  have hle : ls.length = ps.length := by have := strs_len hls; simpa using this.symm
  by_cases hlt : k < x.cps.size
  · rw [if_pos hlt]
    refine wpAny_bind (m := reSlice _ _ _ _) ?_
    show wpAny _ _ (mkStr ⟨x.cps.extract k x.cps.size⟩) _ _ _
    refine wpAny_mkStr ?_ (size_line (by show (x.cps.extract k x.cps.size).size ≤ 100000; rw [Array.size_extract]; lia))
    refine wpAny_bind (m := updateSeq _ _) (push_seq hpl (by lia) fun h1 c1 e1 k1 => ?_)
    have hx : (⟨x.cps.extract k x.cps.size⟩ : Str) = Tx (x.cps.toList.drop k) := by
      unfold Tx
      congr 1
      apply Array.ext'
      simp [Array.toList_extract]
      exact List.take_of_length_le (by simp)
    rw [hx] at e1
    have hq : TxsAre (ps ++ [Value.str (Tx (x.cps.toList.drop k)) s.toks]) (ls ++ [x.cps.toList.drop k]) := by
      simpa [TxsAre] using strs_app hls (.cons (Tx (x.cps.toList.drop k)) s.toks .nil)
    refine sub_tail (pl := pl) (nn := nn) e1 hq (by simp; lia) fun t' tk => ?_
    have := hnext h1 tk t' k1
    rw [List.flatten_append, List.flatten_singleton]; exact this
  · rw [if_neg hlt]
    refine sub_tail (pl := pl) (nn := nn) hpl hls (by lia) fun t' tk => ?_
    have := hnext s.heap tk t' (fun b o _ e => e)
    rw [List.drop_eq_nil_of_le (by simpa using Nat.not_lt.mp hlt), List.append_nil] at this
    exact this
end
end Mine
end
section
open PySem PySem.W PySem.W.X PySem.Calls PyProof.Rows Builtin Builtin.Re
namespace Mine
theorem first_of (is : Nat → Prop) (lim : Nat) : ∀ (d k : Nat), k + d = lim → (∃ p, k ≤ p ∧ p < lim ∧ is p ∧ ∀ q, k ≤ q → q < p → ¬ is q) ∨ ∀ q, k ≤ q → q < lim → ¬ is q
  | 0, k, h => .inr fun q a b => by lia
  | d + 1, k, h => by
    by_cases e : is k
    · exact .inl ⟨k, Nat.le_refl _, by lia, e, fun q a b => by lia⟩
    · rcases first_of is lim d (k + 1) (by lia) with ⟨p, a, b, c, f⟩ | f
      · refine .inl ⟨p, by lia, b, c, fun q x y => ?_⟩
        by_cases hq : q = k
        · subst hq; exact e
        · exact f q (by lia) y
      · refine .inr fun q x y => ?_
        by_cases hq : q = k
        · subst hq; exact e
        · exact f q (by lia) y
theorem out_run {l : List Nat} {is : Nat → Prop} {out : Nat → List Nat} (step : ∀ k (h : k < l.length), ¬ is k → out k = l[k] :: out (k + 1)) : ∀ (d k : Nat), k + d ≤ l.length → (∀ q, k ≤ q → q < k + d → ¬ is q) → out k = (l.drop k).take d ++ out (k + d)
  | 0, k, _, _ => by simp
  | d + 1, k, h, hn => by
    have hk : k < l.length := by lia
    rw [step k hk (hn k (Nat.le_refl _) (by lia)), out_run step d (k + 1) (by lia) (fun q (a : k + 1 ≤ q) (b : q < k + 1 + d) => by
      have b' : q < k + (d + 1) := by lia
      exact hn q (by lia) b')]
    rw [List.drop_eq_getElem_cons hk, List.take_succ_cons, List.cons_append, Nat.add_assoc, Nat.add_comm 1 d]
section
variable {prog : Program} {w : World} {A : Around} {E : Value → Shared → Prop}
theorem sub_all {P pl C : Addr} {vs cs : Array Value} {n : Nat} {code : Array Nat} {l rp : List Nat} {t u : Tok} {R : Result → Shared → Prop} {s₀ : Shared} {is : Nat → Prop} {en : Nat → Nat} {out : Nat → List Nat}
    (h5 : vs.getD 5 .none = .ref C) (h6 : reRawNat (vs.getD 6 .none) = 0) (h2 : reRawNat (vs.getD 2 .none) = 0) (hcode : (cs.map reRawOf).map (·.toNat) = code)
    (hlen : l.length ≤ 2000) (hrp : rp.length ≤ 2)
    (yes : ∀ k p, k ≤ p → p < l.length → is p → (∀ q, k ≤ q → q < p → ¬ is q) → ∃ j, j ≤ 100000 ∧ Fin1 ((Sre.forSearch code l.toArray 0 k l.length false).runFor j) p (en p))
    (no : ∀ k, (∀ q, k ≤ q → q < l.length → ¬ is q) → ∃ j, j ≤ 100000 ∧ ((Sre.forSearch code l.toArray 0 k l.length false).runFor j).outcome = some .failed)
    (hen : ∀ p, p < l.length → is p → p < en p ∧ en p ≤ l.length)
    (step : ∀ k (h : k < l.length), ¬ is k → out k = l[k] :: out (k + 1)) (hit : ∀ p, p < l.length → is p → out p = rp ++ out (en p)) (fin : out l.length = [])
    (hPl : pl ≠ P) (hCl : pl ≠ C) (hnext : ∀ h' tk t', (∀ b o, b ≠ pl → s₀.heap.get? b = some o → h'.get? b = some o) → R (.ok (.ret (.str (Tx (out 0)) t'))) { s₀ with heap := h', toks := tk }) :
    ∀ (fuel k nn : Nat) (h : Heap) (tk : Tok) (ps : List Value) (ls : List (List Nat)) (cc : Nat), l.length - k ≤ fuel → k ≤ l.length → h.get? P = some ⟨.type "re.Pattern", none, .fields vs, #[]⟩ → h.get? C = some ⟨.type "tuple", none, .seq cs n, #[]⟩ →
      h.get? pl = some (PySem.W.listOf ps.toArray cc) → TxsAre ps ls → ls.length ≤ 2 * k → (ls.map List.length).sum ≤ 3 * k → ls.flatten ++ out k = out 0 → (∀ b o, b ≠ pl → s₀.heap.get? b = some o → h.get? b = some o) →
      codeAny (model prog w) A (.builtin "re.Pattern.sub.loop" ⟨[.ref P, .str (Tx l) t, .str (Tx rp) u, rawInt 0, rawInt 0, rawInt (nn : Int), rawInt k, rawInt k, .bool false, .ref pl, .bool false], []⟩) R { s₀ with heap := h, toks := tk } := by
  intro fuel
  induction fuel with
  | zero =>
    intro k nn h tk ps ls cc hf hk hP hC hpl hls hn2 hn3 ho hkeep
    obtain rfl : k = l.length := by lia
    obtain ⟨j, hj, hfail⟩ := no l.length (fun q a b => by lia)
    have hpslen := strs_len hls
    rw [List.length_map] at hpslen
    refine sub_end (x := Tx l) hP h5 h6 h2 hC hcode hj (by simpa using hfail) (by simp; lia) (by lia) hpl hls (by lia) fun h' tk t' hk' => ?_
    have := hnext h' tk t' fun b o hb e => hk' b o hb (hkeep b o hb e)
    rw [← ho, fin] at this
    simpa using this
  | succ fuel ih =>
    intro k nn h tk ps ls cc hf hk hP hC hpl hls hn2 hn3 ho hkeep
    have hpslen := strs_len hls
    rw [List.length_map] at hpslen
    rcases first_of is l.length (l.length - k) k (by lia) with ⟨p, hkp, hp, hisp, hnp⟩ | hnone
    · obtain ⟨j, hj, hfin⟩ := yes k p hkp hp hisp hnp
      obtain ⟨he1, he2⟩ := hen p hp hisp
      refine sub_turn (x := Tx l) hP h5 h6 h2 hC hcode hj (by simpa using hfin) he1 hkp (by simp; lia) (by lia) hpl fun h' tk' ps' c' hpl' hps' hk' => ?_
      have hout : out k = (l.drop k).take (p - k) ++ (rp ++ out (en p)) := by
        rw [out_run step (p - k) k (by lia) (fun q a b => hnp q a (by lia)), show k + (p - k) = p by lia, hit p hp hisp]
      obtain ⟨ls', hls', hfl, hl1, hl2⟩ : ∃ ls', TxsAre ps' ls' ∧ ls'.flatten = (l.drop k).take (p - k) ∧ ls'.length ≤ 1 ∧ (ls'.map List.length).sum ≤ p - k := by
        split at hps'
        · obtain ⟨t', rfl⟩ := hps'
          refine ⟨[(l.drop k).take (p - k)], ?_, by simp, by simp, by simp; lia⟩
          have hx : (⟨(Tx l).cps.extract k p⟩ : Str) = Tx ((l.drop k).take (p - k)) := by
            unfold Tx
            congr 1
            apply Array.ext'
            simp [Array.toList_extract]
          rw [hx]
          exact .cons _ _ .nil
        · subst hps'
          rw [show p - k = 0 by lia]
          exact ⟨[], .nil, by simp, by simp, by simp⟩
      have := ih (en p) (nn + 1) h' tk' (ps ++ ps' ++ [Value.str (Tx rp) u]) (ls ++ ls' ++ [rp]) c' (by lia) he2 (hk' _ _ hPl.symm hP) (hk' _ _ hCl.symm hC) hpl' ?_ ?_ ?_ ?_ (fun b o hb e => hk' b o hb (hkeep b o hb e))
      · rw [show (((nn + 1 : Nat)) : Int) = (nn : Int) + 1 by lia] at this; exact this
      · have a1 := strs_app (strs_app hls hls') (.cons (Tx rp) u .nil)
        simpa [TxsAre] using a1
      · simp; lia
      · simp; lia
      · rw [← ho, hout]
        simp [hfl]
    · obtain ⟨j, hj, hfail⟩ := no k hnone
      refine sub_end (x := Tx l) hP h5 h6 h2 hC hcode hj (by simpa using hfail) (by simp; lia) (by lia) hpl hls (by lia) fun h' tk t' hk' => ?_
      have := hnext h' tk t' fun b o hb e => hk' b o hb (hkeep b o hb e)
      rw [← ho, out_run step (l.length - k) k (by lia) (fun q a b => hnone q a (by lia)), show k + (l.length - k) = l.length by lia, fin, List.append_nil, List.take_of_length_le (by simp)] at this
      simpa using this
end
end Mine
end
section
open PySem PySem.W PySem.W.X PySem.Calls PyProof.Rows PyProof.Rows.LCg PyProof.Rows.LCt Builtin Builtin.Re
namespace Mine
theorem slot_sub : Slot "re.Pattern" (Str.ofString "sub") "re.Pattern.sub" :=
  .of (owner := "re.Pattern") (n := "sub") (by rw [typeLookup_type, builtinLookup_eq_fast]; kernel_rfl) (by decide +kernel) (by decide +kernel) (by decide +kernel)
    (by first | exact .inl (by decide +kernel) | exact .inr (by decide +kernel)) (by rw [isSubtype_type]; kernel_rfl)
theorem entry_sub : entryFor table "re.Pattern.sub" = some Builtin.«re.Pattern.sub» := entryFor_of_tree (by kernel_rfl)
theorem args_sub (a b c : Value) : argsOk "re.Pattern.sub" ⟨[a, b, c], []⟩ := by unfold argsOk; kernel_rfl
theorem type_sub : typeOf (.builtin "re.Pattern.sub") = pure (.type "method_descriptor") := by show builtinType _ = _; rw [builtinType_eq_fast]; kernel_rfl
theorem plain_pat : PlainAttrs "re.Pattern" where
  ga := ⟨"object.__getattribute__", by rw [typeLookup_type, builtinLookup_eq_fast]; kernel_rfl, by decide +kernel⟩
  noGetattr := by rw [typeLookup_type, builtinLookup_eq_fast]; kernel_rfl
theorem str_nocall : typeLookup (.type "str") "__call__" = pure none := by rw [typeLookup_type, builtinLookup_eq_fast]; kernel_rfl
theorem re_named (a b : Value) : reNamed "re.Pattern.sub" "sub" ["repl", "string", "count"] 2 [a, b] [] = pure [some a, some b, none] := by rfl
section
variable {prog : Program} {w : World} {A : Around} {E : Value → Shared → Prop} {s : Shared}
theorem pat_method {P : Addr} {vs : Array Value} {pl : Sem Bool} {Q : Value × List Value → Shared → Prop} (hP : s.heap.get? P = some ⟨.type "re.Pattern", none, .fields vs, #[]⟩) (h : Q (.builtin "re.Pattern.sub", [.ref P]) s) : wpAny (model prog w) A (getMethod (.ref P) (Str.ofString "sub") pl) Q E s :=
  getMethod_builtin ⟨_, hP, rfl⟩ plain_pat slot_sub type_sub (fun a e => by cases e; exact ⟨_, hP, rfl⟩) h
theorem pat_sub {P C : Addr} {vs cs : Array Value} {n : Nat} {code : Array Nat} {l rp : List Nat} {t u : Tok} {is : Nat → Prop} {en : Nat → Nat} {out : Nat → List Nat} {Q : Value → Shared → Prop}
    (hP : s.heap.get? P = some ⟨.type "re.Pattern", none, .fields vs, #[]⟩) (hC : s.heap.get? C = some ⟨.type "tuple", none, .seq cs n, #[]⟩)
    (h5 : vs.getD 5 .none = .ref C) (h6 : reRawNat (vs.getD 6 .none) = 0) (h2 : reRawNat (vs.getD 2 .none) = 0) (hcode : (cs.map reRawOf).map (·.toNat) = code)
    (hlen : l.length ≤ 2000) (hrp : rp.length ≤ 2) (hbs : (Tx rp).cps.contains 92 = false)
    (yes : ∀ k p, k ≤ p → p < l.length → is p → (∀ q, k ≤ q → q < p → ¬ is q) → ∃ j, j ≤ 100000 ∧ Fin1 ((Sre.forSearch code l.toArray 0 k l.length false).runFor j) p (en p))
    (no : ∀ k, (∀ q, k ≤ q → q < l.length → ¬ is q) → ∃ j, j ≤ 100000 ∧ ((Sre.forSearch code l.toArray 0 k l.length false).runFor j).outcome = some .failed)
    (hen : ∀ p, p < l.length → is p → p < en p ∧ en p ≤ l.length)
    (step : ∀ k (h : k < l.length), ¬ is k → out k = l[k] :: out (k + 1)) (hit : ∀ p, p < l.length → is p → out p = rp ++ out (en p)) (fin : out l.length = [])
    (hnext : ∀ h' tk t', (∀ b o, s.heap.get? b = some o → h'.get? b = some o) → Q (.str (Tx (out 0)) t') { s with heap := h', toks := tk }) :
    wpAny (model prog w) A (call (.builtin "re.Pattern.sub") [.ref P, .str (Tx rp) u, .str (Tx l) t]) Q E s := by
  have hT : s.TypeIs (.ref P) "re.Pattern" := ⟨_, hP, rfl⟩
  have hTs : s.TypeIs (.str (Tx rp) u) "str" := typeIs_str s _ _
  refine wpAny_call (codeAny_call_builtin slot_sub.plain entry_sub (slot_sub.check _ _ _ _ _ _ _ _ hT (args_sub _ _ _) ?_))
  unfold «re.Pattern.sub» reSubstitute
  dsimp only
  rw [re_named]
  refine wpAny_bind (wpAny_pure ?_)
  dsimp only
  refine wpAny_bind (wpAny_pure ?_)
  refine wpAny_bind (wpAny_specialOf hTs str_nocall ?_)
  dsimp only [Option.isSome]
  rw [if_neg Bool.false_ne_true]
  refine wpAny_bind (m := asStr? _) (wpAny_pure ?_)
  dsimp only
  refine wpAny_bind (wpAny_pure ?_)
  rw [if_neg Bool.false_ne_true, hbs, if_pos (by decide)]
  refine wpAny_bind (wpAny_pure ?_)
  dsimp only
  refine wpAny_bind (wpAny_holding (re_target hP h5 h6 h2 hC hcode ?_))
  rw [if_neg (by decide)]
  refine wpAny_bind (m := newList _) ?_
  unfold newList
  refine wpAny_newObj_type ?_ (by size_fits)
  refine wpAny_pure ⟨Code.quiet_builtin _ (by decide +kernel), ?_⟩
  have up : ∀ (o : Obj) b o', s.heap.get? b = some o' → (s.heap.push o).get? b = some o' := fun _ b o' e => Heap.get?_push_of_some _ e
  have h := sub_all (prog := prog) (w := w) (A := A) (P := P) (pl := s.heap.objs.size) (C := C) (vs := vs) (cs := cs) (n := n) (code := code) (l := l) (rp := rp) (t := t) (u := u) (R := fun r s' => match r with
    | .ok (.ret v) => Q v s'
    | .ok _ => False
    | .error e => E e s') (s₀ := s) (is := is) (en := en) (out := out) h5 h6 h2 hcode hlen hrp yes no hen step hit fin
    (Nat.ne_of_gt (Heap.lt_size hP)) (Nat.ne_of_gt (Heap.lt_size hC)) (fun h' tk t' k => hnext h' tk t' fun b o e => k b o (Nat.ne_of_lt (Heap.lt_size e)) e) l.length 0 0 _ s.toks [] [] 0 (by lia) (by lia) (up _ _ _ hP) (up _ _ _ hC) (Heap.get?_push_size _ rfl) .nil (by simp) (by simp) (by simp) (fun b o _ e => up _ _ _ e)
  exact h
end
end Mine
end
section
open PySem PySem.W PySem.W.X PySem.Calls PyProof.Rows PyProof.Rows.LCg PyProof.Rows.LCt Builtin Builtin.Re
namespace Mine
noncomputable def sub2 : List Nat → List Nat
  | [] => []
  | [c] => if c = 10 ∨ c = 13 then [13, 10] else [c]
  | c :: d :: r => if c = 13 ∧ d = 10 then 13 :: 10 :: sub2 r else if c = 10 ∨ c = 13 then 13 :: 10 :: sub2 (d :: r) else c :: sub2 (d :: r)
noncomputable def sub1 : Bool → List Nat → List Nat
  | _, [] => []
  | b, c :: r => if b = true ∧ c = 46 then 46 :: 46 :: sub1 false r else c :: sub1 (c == 10) r
noncomputable def quoteL (l : List Nat) : List Nat := sub1 true (sub2 l)
theorem sub2_len : ∀ l : List Nat, (sub2 l).length ≤ 2 * l.length
  | [] => by simp [sub2]
  | [c] => by unfold sub2; split <;> simp
  | c :: d :: r => by
    unfold sub2
    have h1 := sub2_len r
    have h2 := sub2_len (d :: r)
    simp only [List.length_cons] at h2 ⊢
    split
    · simp only [List.length_cons]; lia
    · split <;> simp only [List.length_cons] <;> lia
theorem at_drop {l : List Nat} {k : Nat} (i : Nat) : l.toArray[k + i]?.getD 0 = ((l.drop k)[i]?).getD 0 := by
  rw [List.getElem?_drop]; simp
theorem step2 {l : List Nat} {k : Nat} (h : k < l.length) (hn : ¬ is2 l.toArray k) : sub2 (l.drop k) = l[k] :: sub2 (l.drop (k + 1)) := by
  have e := List.drop_eq_getElem_cons h
  have h0 := at_drop (l := l) (k := k) 0
  rw [e] at h0
  simp only [Nat.add_zero, List.getElem?_cons_zero, Option.getD_some] at h0
  unfold is2 at hn
  rw [h0] at hn
  rw [e]
  have h1 : ¬ (l[k] = 10 ∨ l[k] = 13) := hn
  cases hd : l.drop (k + 1) with
  | nil => simp [sub2, h1]
  | cons d r =>
    have h2 : ¬ (l[k] = 13 ∧ d = 10) := fun x => h1 (.inr x.1)
    simp [sub2, h1, h2]
theorem hit2 {l : List Nat} {p : Nat} (h : p < l.length) (hi : is2 l.toArray p) : sub2 (l.drop p) = [13, 10] ++ sub2 (l.drop (end2 l.toArray p)) := by
  have e := List.drop_eq_getElem_cons h
  have h0 := at_drop (l := l) (k := p) 0
  have h1 := at_drop (l := l) (k := p) 1
  rw [e] at h0 h1
  simp only [Nat.add_zero, List.getElem?_cons_zero, Option.getD_some, List.getElem?_cons_succ] at h0 h1
  unfold is2 at hi
  rw [h0] at hi
  unfold end2
  rw [h0, h1]
  have hi' : l[p] = 10 ∨ l[p] = 13 := hi
  cases hd : l.drop (p + 1) with
  | nil =>
    rw [if_neg (by simp), e, hd]
    simp [sub2, hi']
  | cons d r =>
    simp only [List.getElem?_cons_zero, Option.getD_some]
    by_cases hc : l[p] = 13 ∧ d = 10
    · rw [if_pos hc, e, hd]
      have hr : l.drop (p + 2) = r := by
        have := congrArg (List.drop 1) hd
        simpa using this
      rw [hr, sub2, if_pos hc]; rfl
    · rw [if_neg hc, e, hd, sub2, if_neg hc, if_pos hi']; rfl
theorem end2_le {l : List Nat} {p : Nat} (h : p < l.length) : p < end2 l.toArray p ∧ end2 l.toArray p ≤ l.length := by
  unfold end2
  split
  · rename_i hc
    refine ⟨by lia, ?_⟩
    rcases Nat.lt_or_ge (p + 1) l.length with q | q
    · lia
    · have h2 := hc.2
      rw [Array.getElem?_eq_none (by simpa using q)] at h2
      simp at h2
  · lia
noncomputable def out1 (l : List Nat) (k : Nat) : List Nat := sub1 (decide (k = 0 ∨ l.toArray[k - 1]?.getD 0 = 10)) (l.drop k)
theorem bol_next {l : List Nat} {k : Nat} (h : k < l.length) : decide (k + 1 = 0 ∨ l.toArray[k + 1 - 1]?.getD 0 = 10) = (l[k] == 10) := by
  have h0 := at_drop (l := l) (k := k) 0
  rw [List.drop_eq_getElem_cons h] at h0
  simp only [Nat.add_zero, List.getElem?_cons_zero, Option.getD_some] at h0
  rw [Nat.add_sub_cancel, h0]
  by_cases q : l[k] = 10 <;> simp [q]
theorem step1 {l : List Nat} {k : Nat} (h : k < l.length) (hn : ¬ is1 l.toArray k) : out1 l k = l[k] :: out1 l (k + 1) := by
  have h0 := at_drop (l := l) (k := k) 0
  rw [List.drop_eq_getElem_cons h] at h0
  simp only [Nat.add_zero, List.getElem?_cons_zero, Option.getD_some] at h0
  unfold is1 at hn
  rw [h0] at hn
  unfold out1
  rw [List.drop_eq_getElem_cons h, sub1, if_neg (by simpa using hn), bol_next h]
theorem hit1 {l : List Nat} {p : Nat} (h : p < l.length) (hi : is1 l.toArray p) : out1 l p = [46, 46] ++ out1 l (p + 1) := by
  have h0 := at_drop (l := l) (k := p) 0
  rw [List.drop_eq_getElem_cons h] at h0
  simp only [Nat.add_zero, List.getElem?_cons_zero, Option.getD_some] at h0
  unfold is1 at hi
  rw [h0] at hi
  unfold out1
  rw [List.drop_eq_getElem_cons h, sub1, if_pos (by simpa using hi), bol_next h, hi.2]; rfl
theorem of_crlf : Str.ofString "\r\n" = Tx [13, 10] := by decide +kernel
theorem of_dots : Str.ofString ".." = Tx [46, 46] := by decide +kernel
section
variable {prog : Program} {w : World} {A : Around} {E : Value → Shared → Prop} {s : Shared} {g : Heap} {L : Addr} {m : Str → Option Value} {led : List (Addr × Obj)}
theorem sub_crlf {P C : Addr} {vs cs : Array Value} {n : Nat} {l : List Nat} {t u : Tok} {Q : Value → Shared → Prop} (F : Fr g L s.heap m) (N : News g L s.heap led)
    (hP : s.heap.get? P = some ⟨.type "re.Pattern", none, .fields vs, #[]⟩) (hC : s.heap.get? C = some ⟨.type "tuple", none, .seq cs n, #[]⟩)
    (h5 : vs.getD 5 .none = .ref C) (h6 : reRawNat (vs.getD 6 .none) = 0) (h2 : reRawNat (vs.getD 2 .none) = 0) (hcode : (cs.map reRawOf).map (·.toNat) = code2) (hlen : l.length ≤ 2000)
    (h : ∀ h' tk t', Fr g L h' m → News g L h' led → Q (.str (Tx (sub2 l)) t') { s with heap := h', toks := tk }) :
    wpAny (model prog w) A (call (.builtin "re.Pattern.sub") [.ref P, .str (Str.ofString "\r\n") u, .str (Tx l) t]) Q E s := by
  rw [of_crlf]
  refine pat_sub (is := is2 l.toArray) (en := end2 l.toArray) (out := fun k => sub2 (l.drop k)) hP hC h5 h6 h2 hcode hlen (by decide) (by decide +kernel) (fun k p a b c d => ?_) (fun k a => ?_) (fun p a _ => end2_le a) (fun k a b => step2 a b) (fun p a b => hit2 a b) (by simp [sub2]) fun h' tk t' k => ?_
  · obtain ⟨j, hj, e⟩ := search2_yes (t := l.toArray) (lim := l.length) (by simp) a b c d
    exact ⟨j, by lia, e⟩
  · obtain ⟨j, hj, e⟩ := search2_no (t := l.toArray) (lim := l.length) (s := k) a
    exact ⟨j, by lia, e⟩
  · exact h h' tk t' (F.keeps k) (N.grown k)
theorem sub_dots {P C : Addr} {vs cs : Array Value} {n : Nat} {l : List Nat} {t u : Tok} {Q : Value → Shared → Prop} (F : Fr g L s.heap m) (N : News g L s.heap led)
    (hP : s.heap.get? P = some ⟨.type "re.Pattern", none, .fields vs, #[]⟩) (hC : s.heap.get? C = some ⟨.type "tuple", none, .seq cs n, #[]⟩)
    (h5 : vs.getD 5 .none = .ref C) (h6 : reRawNat (vs.getD 6 .none) = 0) (h2 : reRawNat (vs.getD 2 .none) = 0) (hcode : (cs.map reRawOf).map (·.toNat) = code1) (hlen : l.length ≤ 2000)
    (h : ∀ h' tk t', Fr g L h' m → News g L h' led → Q (.str (Tx (sub1 true l)) t') { s with heap := h', toks := tk }) :
    wpAny (model prog w) A (call (.builtin "re.Pattern.sub") [.ref P, .str (Str.ofString "..") u, .str (Tx l) t]) Q E s := by
  rw [of_dots]
  refine pat_sub (is := is1 l.toArray) (en := (· + 1)) (out := out1 l) hP hC h5 h6 h2 hcode hlen (by decide) (by decide +kernel) (fun k p a b c d => ?_) (fun k a => ?_) (fun p a _ => ⟨Nat.lt_succ_self _, a⟩) (fun k a b => step1 a b) (fun p a b => hit1 a b) (by simp [out1, sub1]) fun h' tk t' k => ?_
  · obtain ⟨j, hj, e⟩ := search1_yes (t := l.toArray) (lim := l.length) a b c d
    exact ⟨j, by lia, e⟩
  · obtain ⟨j, hj, e⟩ := search1_no (t := l.toArray) (lim := l.length) (s := k) a
    exact ⟨j, by lia, e⟩
  · have := h h' tk t' (F.keeps k) (N.grown k)
    simpa [out1] using this
theorem patK {K : Frag} {P : Addr} {vs : Array Value} {pl : Sem Bool} {Q : Value × List Value → Shared → Prop} (F : Fr g L s.heap m) (X : K.In g) (hl : K.lookup P = some ⟨.type "re.Pattern", none, .fields vs, #[]⟩) (h : Q (.builtin "re.Pattern.sub", [.ref P]) s) : wpAny (model prog w) A (getMethod (.ref P) (Str.ofString "sub") pl) Q E s :=
  pat_method (F.keep _ _ (X _ _ hl)) h
theorem crlfK {K : Frag} {P C : Addr} {vs cs : Array Value} {n : Nat} {l : List Nat} {t u : Tok} {Q : Value → Shared → Prop} (F : Fr g L s.heap m) (X : K.In g) (N : News g L s.heap led)
    (hP : K.lookup P = some ⟨.type "re.Pattern", none, .fields vs, #[]⟩) (h5 : vs.getD 5 .none = .ref C) (hC : K.lookup C = some ⟨.type "tuple", none, .seq cs n, #[]⟩)
    (h6 : reRawNat (vs.getD 6 .none) = 0) (h2 : reRawNat (vs.getD 2 .none) = 0) (hcode : (cs.map reRawOf).map (·.toNat) = code2) (hlen : l.length ≤ 2000)
    (h : ∀ h' tk t', Fr g L h' m → News g L h' led → Q (.str (Tx (sub2 l)) t') { s with heap := h', toks := tk }) :
    wpAny (model prog w) A (call (.builtin "re.Pattern.sub") [.ref P, .str (Str.ofString "\r\n") u, .str (Tx l) t]) Q E s :=
  sub_crlf F N (F.keep _ _ (X _ _ hP)) (F.keep _ _ (X _ _ hC)) h5 h6 h2 hcode hlen h
theorem dotsK {K : Frag} {P C : Addr} {vs cs : Array Value} {n : Nat} {l : List Nat} {t u : Tok} {Q : Value → Shared → Prop} (F : Fr g L s.heap m) (X : K.In g) (N : News g L s.heap led)
    (hP : K.lookup P = some ⟨.type "re.Pattern", none, .fields vs, #[]⟩) (h5 : vs.getD 5 .none = .ref C) (hC : K.lookup C = some ⟨.type "tuple", none, .seq cs n, #[]⟩)
    (h6 : reRawNat (vs.getD 6 .none) = 0) (h2 : reRawNat (vs.getD 2 .none) = 0) (hcode : (cs.map reRawOf).map (·.toNat) = code1) (hlen : l.length ≤ 2000)
    (h : ∀ h' tk t', Fr g L h' m → News g L h' led → Q (.str (Tx (sub1 true l)) t') { s with heap := h', toks := tk }) :
    wpAny (model prog w) A (call (.builtin "re.Pattern.sub") [.ref P, .str (Str.ofString "..") u, .str (Tx l) t]) Q E s :=
  sub_dots F N (F.keep _ _ (X _ _ hP)) (F.keep _ _ (X _ _ hC)) h5 h6 h2 hcode hlen h
end
end Mine
end
section
open PySem PySem.W PySem.W.X PySem.Calls PyProof.Rows
namespace Mine
noncomputable def isSep (l : List Nat) (i : Nat) : Bool := (l.drop i).take 2 == [44, 32]
noncomputable def seps (l : List Nat) : List Nat := (List.range l.length).filter (isSep l)
theorem isSep_two {l : List Nat} {i : Nat} (h : isSep l i = true) : ∃ r, l.drop i = 44 :: 32 :: r := by
  unfold isSep at h
  have h := eq_of_beq h
  match e : l.drop i with
  | [] => rw [e] at h; cases h
  | [a] => rw [e] at h; cases h
  | a :: b :: r => rw [e] at h; cases h; exact ⟨r, rfl⟩
theorem isSep_next {l : List Nat} {i : Nat} (h : isSep l i = true) : isSep l (i + 1) = false := by
  obtain ⟨r, e⟩ := isSep_two h
  have : l.drop (i + 1) = 32 :: r := by rw [← List.drop_drop, e]; rfl
  unfold isSep
  rw [this]
  cases r <;> simp
theorem subAt_sep (l : List Nat) (i : Nat) : PySem.Builtin.Str.subAt (Tx l) (Tx [44, 32]) i = isSep l i := by
  unfold PySem.Builtin.Str.subAt isSep Tx
  have : ((⟨l.toArray⟩ : Str).cps.extract i (i + (⟨[44, 32].toArray⟩ : Str).length)) = ((l.drop i).take 2).toArray := by
    show l.toArray.extract i (i + 2) = _
    rw [List.extract_toArray, List.extract_eq_take_drop]
    congr 2
    lia
  rw [this]
  apply Bool.eq_iff_iff.mpr
  simp
theorem occ_seps (l : List Nat) : ∀ (n a : Nat) (acc : Array Nat) (free : Nat), a + n = l.length + 1 → acc.size ≤ a → (free ≤ a ∨ (free = a + 1 ∧ isSep l a = false)) →
    (forIn (List.range' a n) (acc, free) (StrLaws.occBody (Tx l) (Tx [44, 32]) l.length (l.length + 1))).run.fst.toList = acc.toList ++ (List.range' a n).filter (isSep l)
  | 0, a, acc, free, _, _, _ => by simp
  | n + 1, a, acc, free, hn, hs, hf => by
    rw [List.range'_succ, List.forIn_cons]
    unfold StrLaws.occBody
    rw [subAt_sep, List.filter_cons]
    by_cases hc : isSep l a = true
    · obtain ⟨r, e⟩ := isSep_two hc
      have hlen : a + 2 ≤ l.length := by
        have := congrArg List.length e
        rw [List.length_drop, List.length_cons, List.length_cons] at this
        lia
      have hfa : free ≤ a := by
        rcases hf with h | h
        · exact h
        · rw [h.2] at hc; cases hc
      rw [if_pos ⟨⟨⟨show acc.size < l.length + 1 by lia, hfa⟩, hlen⟩, hc⟩, if_pos hc]
      refine (occ_seps l n (a + 1) (acc.push a) (a + 2) (by lia) (by simp; lia) (.inr ⟨rfl, isSep_next hc⟩)).trans ?_
      simp
    · rw [if_neg (fun h => hc h.2), if_neg hc]
      refine occ_seps l n (a + 1) acc free (by lia) (by lia) (.inl ?_)
      rcases hf with h | h <;> lia
theorem isSep_end (l : List Nat) : isSep l l.length = false := by
  unfold isSep; simp
theorem occ_sep (l : List Nat) : PySem.Builtin.Str.occurrences (Tx l) (Tx [44, 32]) 0 (Tx l).length ((Tx l).length + 1) = seps l := by
  rw [StrLaws.occ_eq, tx_len]
  have := occ_seps l (l.length + 1) 0 #[] 0 (by lia) (by simp) (.inl (Nat.le_refl _))
  rw [Nat.sub_zero, this]
  unfold seps
  rw [← List.range_eq_range', List.range_succ, List.filter_append]
  simp [isSep_end]
noncomputable def pieces (l : List Nat) (cuts : List Nat) : List (List Nat) := ((0 :: cuts.map (· + 2)).zip (cuts ++ [l.length])).map fun p => (l.drop p.1).take (p.2 - p.1)
theorem parts_tx (l cuts : List Nat) : PySem.Builtin.Str.partsBetween (Tx l) cuts 2 = (pieces l cuts).map Tx := by
  unfold PySem.Builtin.Str.partsBetween pieces
  rw [tx_len, List.map_map]
  apply List.map_congr_left
  rintro ⟨i, j⟩ _
  show (⟨l.toArray.extract i j⟩ : Str) = Tx ((l.drop i).take (j - i))
  rw [List.extract_toArray, List.extract_eq_take_drop]
theorem seps_none {x : List Nat} (h : 44 ∉ x) : seps x = [] := by
  unfold seps
  rw [List.filter_eq_nil_iff]
  intro i hi e
  obtain ⟨r, q⟩ := isSep_two e
  exact h (List.mem_of_mem_drop (i := i) (by rw [q]; exact List.mem_cons_self))
theorem seps_app {x r : List Nat} (h : 44 ∉ x) : seps (x ++ ([44, 32] ++ r)) = x.length :: (seps r).map (· + (x.length + 2)) := by
  have e : (x ++ ([44, 32] ++ r)).length = x.length + (2 + r.length) := by simp; lia
  unfold seps
  rw [e, List.range_add, List.range_add, List.filter_append]
  have a : (List.range x.length).filter (isSep (x ++ ([44, 32] ++ r))) = [] := by
    rw [List.filter_eq_nil_iff]
    intro i hi q
    have hi := List.mem_range.mp hi
    obtain ⟨r', q⟩ := isSep_two q
    rw [List.drop_append_of_le_length (Nat.le_of_lt hi)] at q
    have : x.drop i = x[i] :: x.drop (i + 1) := List.drop_eq_getElem_cons hi
    rw [this, List.cons_append] at q
    exact h (by have := (List.cons.inj q).1; rw [← this]; exact List.getElem_mem hi)
  have d : ∀ k, (x ++ ([44, 32] ++ r)).drop (x.length + k) = ([44, 32] ++ r).drop k := fun k => by
    rw [List.drop_append, List.drop_of_length_le (Nat.le_add_right _ _)]; simp
  rw [a, List.nil_append, List.map_append, List.filter_append, List.map_map]
  have b : ((List.range 2).map (x.length + ·)).filter (isSep (x ++ ([44, 32] ++ r))) = [x.length] := by
    show [x.length + 0, x.length + 1].filter _ = _
    have s0 : isSep (x ++ ([44, 32] ++ r)) (x.length + 0) = true := by unfold isSep; rw [d]; simp
    rw [List.filter_cons, if_pos s0, List.filter_cons, if_neg (by rw [isSep_next (i := x.length + 0) s0]; simp)]
    rfl
  rw [b, List.filter_map]
  show x.length :: _ = _
  congr 1
  have c : (isSep (x ++ ([44, 32] ++ r)) ∘ ((x.length + ·) ∘ (2 + ·))) = isSep r := by
    funext k
    show isSep _ (x.length + (2 + k)) = _
    unfold isSep
    rw [d, ← List.drop_drop]
    rfl
  rw [c]
  apply List.map_congr_left
  intro k _
  show x.length + (2 + k) = _
  lia
theorem pieces_join : ∀ (x : List Nat) (ns : List (List Nat)), 44 ∉ x → (∀ y ∈ ns, 44 ∉ y) → pieces (joinL [44, 32] (x :: ns)) (seps (joinL [44, 32] (x :: ns))) = x :: ns
  | x, [], h, _ => by
    show pieces x (seps x) = [x]
    rw [seps_none h]
    simp [pieces]
  | x, y :: r, h, k => by
    have ih := pieces_join y r (k y List.mem_cons_self) fun z hz => k z (List.mem_cons_of_mem _ hz)
    have e : joinL [44, 32] (x :: y :: r) = x ++ ([44, 32] ++ joinL [44, 32] (y :: r)) := by
      show x ++ [44, 32] ++ _ = _
      rw [List.append_assoc]
    rw [e, seps_app h]
    generalize joinL [44, 32] (y :: r) = z at ih
    have hl : (x ++ ([44, 32] ++ z)).length = z.length + (x.length + 2) := by simp; lia
    have hx : (x ++ ([44, 32] ++ z)).take x.length = x := List.take_left
    have hd : ∀ i, (x ++ ([44, 32] ++ z)).drop (i + (x.length + 2)) = z.drop i := fun i => by
      rw [show i + (x.length + 2) = x.length + (2 + i) by lia, ← List.drop_drop, List.drop_left, ← List.drop_drop]
      rfl
    generalize x ++ ([44, 32] ++ z) = W at hl hx hd
    unfold pieces at ih ⊢
    simp only [List.map_cons, List.cons_append, List.zip_cons_cons, List.map_map]
    congr 1
    · rw [← ih, hl]
      have : (List.map (fun c => c + (x.length + 2)) (seps z) ++ [z.length + (x.length + 2)]) = (seps z ++ [z.length]).map (fun c => c + (x.length + 2)) := by rw [List.map_append]; rfl
      have t2 : ((x.length + 2) :: List.map ((fun c => c + 2) ∘ fun c => c + (x.length + 2)) (seps z)) = (0 :: (seps z).map (· + 2)).map (fun c => c + (x.length + 2)) := by
        rw [List.map_cons, List.map_map, Nat.zero_add]
        congr 1
        apply List.map_congr_left
        intro c _
        show c + (x.length + 2) + 2 = c + 2 + (x.length + 2)
        lia
      rw [this, t2, List.zip_map, List.map_map]
      apply List.map_congr_left
      rintro ⟨i, j⟩ _
      show (W.drop (i + (x.length + 2))).take (j + (x.length + 2) - (i + (x.length + 2))) = (z.drop i).take (j - i)
      rw [show j + (x.length + 2) - (i + (x.length + 2)) = j - i by lia, hd]
theorem pieces_nil (l : List Nat) : pieces l [] = [l] := by simp [pieces]
theorem kind_ge (x : Str) : 1 ≤ PySem.Builtin.Str.strKind x := by
  unfold PySem.Builtin.Str.strKind
  split
  · exact Nat.le_refl _
  · split <;> decide
theorem split_sep (l : List Nat) : Txt.split (Tx l) (Tx [44, 32]) = (pieces l (seps l)).map Tx := by
  unfold Txt.split
  have k1 : PySem.Builtin.Str.strKind (Tx [44, 32]) = 1 := by decide +kernel
  have k2 : decide (PySem.Builtin.Str.strKind (Tx l) < PySem.Builtin.Str.strKind (Tx [44, 32])) = false := by
    rw [k1]; exact decide_eq_false (Nat.not_lt.mpr (kind_ge _))
  rw [k2, Bool.or_false, occ_sep]
  by_cases h : (Tx l).length < (Tx [44, 32]).length
  · rw [if_pos (by simpa using h)]
    have e : seps l = [] := by
      unfold seps
      rw [List.filter_eq_nil_iff]
      intro i hi q
      obtain ⟨r, q⟩ := isSep_two q
      have := congrArg List.length q
      rw [List.length_drop, List.length_cons, List.length_cons] at this
      rw [tx_len, tx_len] at h
      have h : l.length < 2 := h
      lia
    rw [e, pieces_nil]; rfl
  · rw [if_neg (by simpa using h)]
    by_cases e : seps l = []
    · rw [e, pieces_nil]; rfl
    · rw [if_neg (by simpa using e)]
      exact parts_tx _ _
theorem no_comma : ∀ i : Nat, 44 ∉ nameL i
  | 0 | 1 | 2 | 3 | 4 | 5 | 6 | 7 | 8 | 9 | 10 | 11 | 12 | 13 => by decide
  | _ + 14 => by show 44 ∉ []; simp
theorem names_ne {f : Nat} (h0 : 1 ≤ f) (h1 : f < 16384) : namesF f 14 ≠ [] := by
  obtain ⟨i, hi⟩ := Nat.exists_testBit_of_ne_zero (x := f) (by lia)
  have hl : i < 14 := Nat.lt_of_not_le fun h => by
    have : f < 2 ^ i := Nat.lt_of_lt_of_le h1 (Nat.pow_le_pow_right (n := 2) (by decide) h)
    rw [Nat.testBit_lt_two_pow this] at hi
    cases hi
  have : nameL i ∈ namesF f 14 := List.mem_map_of_mem (List.mem_filter.mpr ⟨List.mem_range.mpr hl, hi⟩)
  exact fun e => by rw [e] at this; cases this
theorem split_flags {f : Nat} (h0 : 1 ≤ f) (h1 : f < 16384) : Txt.split (Tx (flagsL f)) (Tx [44, 32]) = (namesF f 14).map Tx := by
  rw [split_sep]
  have ne := names_ne h0 h1
  have nc : ∀ y ∈ namesF f 14, 44 ∉ y := fun y hy => by
    obtain ⟨i, _, rfl⟩ := List.mem_map.mp hy
    exact no_comma i
  unfold flagsL
  cases e : namesF f 14 with
  | nil => exact absurd e ne
  | cons x ns =>
    rw [e] at nc
    rw [pieces_join x ns (nc x List.mem_cons_self) fun y hy => nc y (List.mem_cons_of_mem _ hy)]
end Mine
end
section
namespace Mine
noncomputable def bitW (b : Bool) : List Nat := if b then [49] else [48]
noncomputable def dots (n : Nat) : List Nat := List.replicate (n + 1) 46
noncomputable def dueN (bl : List Bool) (wd hi i : Nat) : Nat := ((List.range wd).filter fun k => decide (k + 1 ≤ ((bl.drop i).take (hi + k - i)).count true)).length
noncomputable def sentP (p : Nat × Nat) : List Nat := match p.1 with
  | 0 => 46 :: dots p.2
  | 1 => 32 :: dots p.2
  | 2 => 92 :: dots p.2
  | _ => 34 :: (dots p.2 ++ [34])
noncomputable def tokP (p : Nat × Nat) : List Nat := if p.1 = 0 then 46 :: dots p.2 else dots p.2
noncomputable def textP (p : Nat × Nat) : List Nat := if p.1 = 0 then dots p.2 else sentP p
noncomputable def eol (e : Nat) : List Nat := if e = 0 then [10] else if e = 1 then [13] else [13, 10]
noncomputable def sentL (its : List (Nat × Nat)) : List Nat := (its.map fun p => sentP p ++ [13, 10]).flatten
noncomputable def textL (its : List (Nat × Nat)) (e : Nat) : List Nat := ((List.range its.length).map fun i => textP (its.getD i (0, 0)) ++ eol ((i + e) % 3)).flatten
noncomputable def bitsN (t n : Nat) : List Bool := (List.range t).map n.testBit
noncomputable def wdN (t n : Nat) : Nat := (bitsN t n).count true
noncomputable def hiN (t n : Nat) : Nat := t - wdN t n
noncomputable def duesN (t n : Nat) : List Nat := (List.range (hiN t n)).map (dueN (bitsN t n) (wdN t n) (hiN t n))
noncomputable def bareN (t n i : Nat) : Bool := (bitsN t n).getD ((i + t - 1) % t) false
noncomputable def itsN (t n w : Nat) : List (Nat × Nat) := (List.range (hiN t n)).map fun i => (if bareN t n i then 0 else (i + w) % 3 + 1, (duesN t n).getD i 0)
noncomputable def rotN (t n : Nat) : Nat := 2 * n % 2 ^ t + n / 2 ^ (t - 1)
noncomputable def lackN (wd : Nat) (ds : List Nat) : List Nat := (List.range wd).filter fun n => !(ds.contains n)
noncomputable def placesN (t n : Nat) : List Nat := ((List.range (hiN t n)).filter (bareN t n)) ++ (lackN (wdN t n) (duesN t n)).map (hiN t n + ·)
noncomputable def heldN (t n : Nat) : List Nat := (List.range (hiN t n)).map fun i =>
  match ((List.range (hiN t n)).filter fun j => decide (i ≤ j) && bareN t n j) with
  | [] => 0
  | j :: _ => (duesN t n).getD j 0 + 1
noncomputable def checkA (t n : Nat) : Bool := (List.range (hiN t n)).all fun i => decide ((duesN t n).getD i 0 < if i = 0 then wdN t n else (duesN t n).getD (i - 1) 0) == bareN t n i
noncomputable def checkB (t n : Nat) : Bool := placesN t n == (List.range t).filter (rotN t n).testBit
noncomputable def checkC (t n : Nat) : Bool := heldN t n == duesN t (rotN t n)
noncomputable def checkR (t n : Nat) : Bool := bitsN t (rotN t n) == (n.testBit (t - 1)) :: (bitsN t n).dropLast && decide (1 ≤ rotN t n) && decide (rotN t n ≤ 2 ^ t - 2) && decide (wdN t (rotN t n) = wdN t n)
noncomputable def checkD (t n w e : Nat) : Bool := quoteL (textL (itsN t n w) e) == sentL (itsN t n w)
noncomputable def allN (f : Nat → Nat → Bool) : Bool := [4, 5, 6].all fun t => (List.range (2 ^ t - 2)).all fun n => f t (n + 1)
theorem allA : allN checkA = true := by decide +kernel
theorem allB : allN checkB = true := by decide +kernel
theorem allC : allN checkC = true := by decide +kernel
theorem allR : allN checkR = true := by decide +kernel
noncomputable def allD : Bool := allN fun t n => (List.range 3).all fun w => (List.range 3).all fun e => checkD t n w e
theorem allD_ok : allD = true := by decide +kernel
noncomputable def numN (t n : Nat) : Nat → Nat
  | 0 => n
  | s + 1 => rotN t (numN t n s)
noncomputable def colN (t n i : Nat) : List Nat := (List.range t).map fun s => (duesN t (numN t n s)).getD i 0
noncomputable def movedN (m : List Nat) (p : Nat) : List Nat := 0 :: (m.take p ++ (m.getD p 0 + m.getD (p + 1) 0) :: m.drop (p + 2))
noncomputable def intsN (l : List Nat) : List Int := l.map Int.ofNat
noncomputable def lacksN (t n i : Nat) : List Nat := (colN t n i).map (wdN t n - ·)
noncomputable def checkG (t n : Nat) : Bool := (List.range ((hiN t n + 1) / 2)).all fun i =>
  let a := wsOf (runsL (intsN (lacksN t n i))); let b := wsOf (runsL (intsN (colN t n (hiN t n - 1 - i))))
  decide (a.cs = b.cs) && a.b == b.b && a.b == 0
theorem allG : allN checkG = true := by decide +kernel
noncomputable def columnI (ns : List Int) (t : Int) : Int := t * (ns.map fun n => n.fdiv t + 1).sum
noncomputable def witT (d e : Nat → Int) (j : Nat) : Option (Int × Int × Int) := if d (1 + j) = e (1 + j) then none else some (((1 + j : Nat) : Int), d (1 + j), e (1 + j))
noncomputable def maxL (l : List Nat) : Nat := l.foldl (fun a b => if a < b then b else a) 2
noncomputable def checkH (t n i p : Nat) : Bool :=
  let m := colN t n (hiN t n - 1 - i)
  let v := movedN m p
  let a := wsOf (runsL (intsN (lacksN t n i)) ++ [32, 32])
  let b := wsOf (runsL (intsN m))
  let c := wsOf (runsL (intsN v))
  !(decide (a.cs = b.cs) && decide ((a.b : Int) = b.b)) && ((decide (b.cs = c.cs) && decide ((b.b : Int) = c.b)) == decide (0 ∈ (m.drop p).take 2)) &&
  decide (((List.range (maxL v + 1)).filterMap fun j => let x := columnI (intsN m) (1 + j : Nat) + 2; let y := columnI (intsN v) (1 + j : Nat); if x = y then none else some (((1 + j : Nat) : Int), x, y)) =
    (List.range ((mx (longB a.b a.cs.length) (longB c.b c.cs.length)).toNat + 1)).filterMap (witT (fun t => ilB t a.b a.nt a.cs) (fun t => ilB t c.b c.nt c.cs)))
noncomputable def allH (t : Nat) : Bool := (List.range (2 ^ t - 2)).all fun n => (List.range ((hiN t (n + 1) + 1) / 2)).all fun i => (List.range (t - 1)).all fun p => checkH t (n + 1) i p
theorem allH4 : allH 4 = true := by decide +kernel
end Mine
end
section
open PySem PySem.W PySem.W.X PySem.Calls PyProof.Rows PyProof.Rows.LCg PyProof.Rows.LCt PySem.Spec
namespace Mine
theorem strs_take : ∀ {vs : List Value} {ys : List Str} (n : Nat), StrsAre vs ys → StrsAre (vs.take n) (ys.take n)
  | _, _, 0, _ => .nil
  | _, _, _ + 1, .nil => .nil
  | _, _, n + 1, .cons y t h => .cons y t (strs_take n h)
theorem strs_drop : ∀ {vs : List Value} {ys : List Str} (n : Nat), StrsAre vs ys → StrsAre (vs.drop n) (ys.drop n)
  | _, _, 0, h => h
  | _, _, _ + 1, .nil => .nil
  | _, _, n + 1, .cons _ _ h => strs_drop n h
theorem ints_take : ∀ {vs : List Value} {ys : List Int} (n : Nat), IntsAre vs ys → IntsAre (vs.take n) (ys.take n)
  | _, _, 0, _ => .nil
  | _, _, _ + 1, .nil => .nil
  | _, _, n + 1, .cons y t h => .cons y t (ints_take n h)
theorem ints_drop : ∀ {vs : List Value} {ys : List Int} (n : Nat), IntsAre vs ys → IntsAre (vs.drop n) (ys.drop n)
  | _, _, 0, h => h
  | _, _, _ + 1, .nil => .nil
  | _, _, n + 1, .cons _ _ h => ints_drop n h
theorem take_drop_clip {α : Type} (vs : List α) (a b : Nat) : (vs.drop (min a vs.length)).take (min b vs.length - min a vs.length) = (vs.drop a).take (b - a) := by
  rcases Nat.le_total a vs.length with h | h
  · rw [Nat.min_eq_left h]
    rcases Nat.le_total b vs.length with k | k
    · rw [Nat.min_eq_left k]
    · rw [Nat.min_eq_right k, List.take_of_length_le (by simp), List.take_of_length_le (by simp; lia)]
  · rw [Nat.min_eq_right h, List.drop_of_length_le (Nat.le_refl _), List.drop_of_length_le h]; simp
theorem slice_nat {vs : List Value} {lo hi : Int} {a b : Nat} (ha : lo = (a : Int)) (hb : hi = (b : Int)) : (slicePick vs.toArray (some lo) (some hi) none).toList = (vs.drop a).take (b - a) := by
  subst ha hb
  rw [slicePick_plain]
  simp only [Option.elim, clipAt_nat]
  exact take_drop_clip vs a b
theorem count_bits : ∀ bl : List Bool, countIn (.str (Str.ofString "1")) (((bl.map bitW).map Tx).map PyData.str) = (bl.count true : Int)
  | [] => rfl
  | b :: r => by
    have h1 : Spec.same (.str (Tx [49])) (.str (Str.ofString "1")) = true := by decide +kernel
    have h0 : Spec.same (.str (Tx [48])) (.str (Str.ofString "1")) = false := by decide +kernel
    simp only [List.map_cons, Spec.countIn, count_bits r]
    cases b
    · simp only [bitW, Bool.false_eq_true, if_false, h0, List.count_cons]; simp
    · simp only [bitW, if_true, h1, List.count_cons]; simp; lia
theorem bits_slice {lv : List Value} {bl : List Bool} {lo hi : Int} {a b : Nat} (h : TxsAre lv (bl.map bitW)) (ha : lo = (a : Int)) (hb : hi = (b : Int)) :
    TxsAre (slicePick lv.toArray (some lo) (some hi) none).toList (((bl.drop a).take (b - a)).map bitW) := by
  rw [slice_nat ha hb]
  have := strs_take (b - a) (strs_drop a h)
  unfold TxsAre
  rwa [List.map_take, List.map_drop, List.map_take, List.map_drop]
theorem bits_us {us lv : List Value} {bl : List Bool} {lo hi : Int} {a b : Nat} (e : us = (slicePick lv.toArray (some lo) (some hi) none).toList) (h : TxsAre lv (bl.map bitW)) (ha : lo = (a : Int)) (hb : hi = (b : Int)) : TxsAre us (((bl.drop a).take (b - a)).map bitW) := e ▸ bits_slice h ha hb
noncomputable def duePart (bl : List Bool) (hi i k : Nat) : List Nat := (List.range k).filter fun k => decide (k + 1 ≤ ((bl.drop i).take (hi + k - i)).count true)
theorem duePart_yes {bl : List Bool} {hi i k : Nat} (h : k + 1 ≤ ((bl.drop i).take (hi + k - i)).count true) : (duePart bl hi i (k + 1)).length = (duePart bl hi i k).length + 1 := by
  unfold duePart; rw [List.range_succ, List.filter_append, List.length_append]; simp [h]
theorem duePart_no {bl : List Bool} {hi i k : Nat} (h : ¬ k + 1 ≤ ((bl.drop i).take (hi + k - i)).count true) : (duePart bl hi i (k + 1)).length = (duePart bl hi i k).length := by
  unfold duePart; rw [List.range_succ, List.filter_append, List.length_append]; simp [h]
theorem duePart_all (bl : List Bool) (wd hi i : Nat) : (duePart bl hi i wd).length = dueN bl wd hi i := rfl
theorem dueN_le (bl : List Bool) (wd hi i : Nat) : dueN bl wd hi i ≤ wd := Nat.le_trans (List.length_filter_le _ _) (by simp)
theorem ints_app {a b : List Value} {x y : List Int} (h : IntsAre a x) (k : IntsAre b y) : IntsAre (a ++ b) (x ++ y) := by
  induction h with
  | nil => exact k
  | cons n t _ ih => exact .cons n t ih
theorem ints_snoc {ys : List Value} {i : Nat} {f : Nat → Int} {t : Tok} (h : IntsAre ys ((List.range i).map f)) : IntsAre (ys ++ [.int (f i) t]) ((List.range (i + 1)).map f) := by
  rw [List.range_succ, List.map_append]; exact ints_app h (.cons _ _ .nil)
theorem of_dot : Str.ofString "." = Tx [46] := by decide +kernel
theorem dots_lt (ds : List Nat) : ∀ l ∈ ds.map dots, ∀ c ∈ l, c < 128 := by
  intro l hl c hc
  obtain ⟨d, _, rfl⟩ := List.mem_map.mp hl
  rw [(List.mem_replicate.mp hc).2]; decide
theorem ints_nat {dv : List Value} {ds : List Nat} (h : IntsAre dv (intsN ds)) {B : Nat} (hB : ∀ d ∈ ds, d ≤ B) (i : Nat) (v : Value) (hv : dv[i]? = some v) : ∃ (d : Nat) (t : Tok), ds[i]? = some d ∧ v = .int (d : Int) t ∧ d ≤ B := by
  obtain ⟨k, t, rfl, hk⟩ := h.at i v hv
  unfold intsN at hk
  rw [List.getElem?_map] at hk
  cases q : ds[i]? with
  | none => rw [q] at hk; cases hk
  | some d => rw [q] at hk; cases hk; exact ⟨d, t, rfl, rfl, hB d (List.mem_of_getElem? q)⟩
theorem eqv_self (l : List (List Nat)) : PyData.eqv (.list ((l.map Tx).map .str)) (.list ((l.map Tx).map .str)) = true := by
  rw [PyData.eqv]
  exact (eqv_txs l l).trans (by simp)
end Mine
end
section
namespace Mine
theorem allH5 : allH 5 = true := by decide +kernel
noncomputable def bodyH (t n : Nat) : Bool := (List.range ((hiN t (n + 1) + 1) / 2)).all fun i => (List.range (t - 1)).all fun p => checkH t (n + 1) i p
noncomputable def partH (t a k : Nat) : Bool := (List.range k).all fun n => bodyH t (a + n)
theorem part_at {t a k n : Nat} (h : partH t a k = true) (h1 : a ≤ n) (h2 : n < a + k) : bodyH t n = true := by
  have q := List.all_eq_true.mp h (n - a) (List.mem_range.mpr (by lia))
  rwa [Nat.add_sub_cancel' h1] at q
theorem h6a : partH 6 0 12 = true := by decide +kernel
theorem h6b : partH 6 12 13 = true := by decide +kernel
theorem h6c : partH 6 25 13 = true := by decide +kernel
theorem h6d : partH 6 38 12 = true := by decide +kernel
theorem h6e : partH 6 50 12 = true := by decide +kernel
theorem allH6 : allH 6 = true := by
  refine List.all_eq_true.mpr fun n hn => ?_
  have hn : n < 62 := List.mem_range.mp hn
  show bodyH 6 n = true
  by_cases c1 : n < 12
  · exact part_at h6a (Nat.zero_le _) (by lia)
  by_cases c2 : n < 25
  · exact part_at h6b (by lia) (by lia)
  by_cases c3 : n < 38
  · exact part_at h6c (by lia) (by lia)
  by_cases c4 : n < 50
  · exact part_at h6d (by lia) (by lia)
  exact part_at h6e (by lia) (by lia)
end Mine
end
section
open PySem PySem.W PySem.W.X PySem.Calls PyProof.Rows PyProof.Rows.LCg PyProof.Rows.LCt
namespace Mine
noncomputable abbrev cellNone : Obj := { cls := .type "cell", data := .cell none }
theorem env_cell {M : Model} {A : Around} {E : Value → Shared → Prop} {s : Shared} {scope : Scope} {globals : Addr} {cl : List (Str × Addr)} {qual : Str} {env : Env} {x : Str} {Q : Env → Shared → Prop}
    (hcs : ∀ n acc, cellsFrom n scope.names acc = (x, n) :: acc) (hpc : ∀ h, pushCells h scope.names = h.push cellNone)
    (hQ : Q { scope, locals := s.heap.objs.size, globals, cells := (x, s.heap.objs.size + 1) :: cl, qual, func := none, code := env.code, frame := env.frame, builtins := env.builtins } { s with heap := (s.heap.push { cls := .type "dict", data := .dict #[] }).push cellNone }) :
    wpAny M A (newFunctionEnv scope globals cl [] qual none .none (some env)) Q E s := by
  simp only [newFunctionEnv, Option.isSome_some, if_true]
  refine wpAny_bind (wpAny_alloc ?_)
  refine wpAny_bind (wpAny_layCells _ (fun name kind cells => by cases hkc : kind == NameKind.cell <;> simp [hkc]) _ _ _ _ ?_)
  rw [hcs, hpc]
  rw [List.forIn_nil]
  refine wpAny_bind (wpAny_pure (wpAny_pure ?_))
  have : ({ s with heap := s.heap.push { cls := .type "dict", data := .dict #[] } } : Shared).heap.objs.size = s.heap.objs.size + 1 := Heap.size_push ..
  rw [this]
  exact hQ
theorem lookup_relabel_cell {env : Env} : ∀ {names : List (Str × NameKind)} {x : Str}, names.lookup x = some .cell →
    (names.map fun (n, k) => if (k == NameKind.free && env.scope.kind == .function && env.kindOf n == some .cell) then (n, NameKind.cell) else (n, k)).lookup x = some .cell
  | [], _, h => by simp at h
  | (n, k) :: r, x, h => by
    rw [List.lookup_cons] at h
    rw [List.map_cons]
    cases hb : x == n with
    | true =>
      rw [hb] at h; simp only at h; cases h
      simp [List.lookup_cons, hb]
    | false =>
      rw [hb] at h
      dsimp only
      split
      · rw [List.lookup_cons, hb]; exact lookup_relabel_cell h
      · rw [List.lookup_cons, hb]; exact lookup_relabel_cell h
theorem ne3 (I k l : Nat) (h : k ≠ l) : (I + k : Nat) ≠ I + l := fun e => h (Nat.add_left_cancel e)
section
variable {prog : Program} {w : World} {A : Around} {E : Value → Shared → Prop} {s : Shared} {g : Heap} {L : Addr} {m : Str → Option Value} {env : Env}
noncomputable abbrev SrcCF (prog : Program) (w : World) (A : Around) (g : Heap) (L : Addr) (m : Str → Option Value) (env : Env) (elt : Expr) (x : Str) (scope : Scope) (cl : List (Str × Addr)) (Fin : Shared → List Value → List (Addr × Obj) → Prop) (s : Shared) (r : Addr) (a b : Int) (t u v : Tok) (n : Nat) (T₀ : List (Addr × Obj)) (J : Nat → List Value → List (Addr × Obj) → Prop) : Prop :=
  A.handled = none ∧ Fr g L s.heap m ∧ News g L s.heap T₀ ∧ Apart (T₀.map (·.1)) ∧
    IsRange s.heap r a b 1 t u v ∧ Builtin.Range.small a b 1 = true ∧ Builtin.Range.rangeSize a b 1 = ((n : Nat) : Int) ∧ n ≤ 10000 ∧ J 0 [] T₀ ∧
    (∀ i t ys T I oI C oC D oK h tk (E' : Value → Shared → Prop), i < n → J i ys T → oK.data = .cell (some (.int (a + (i : Int)) t)) → Fr g L h m → News g L h ((I, oI) :: (C, oC) :: (D, lst ys) :: (C + 1, oK) :: T) → Apart (I :: C :: D :: (C + 1) :: T.map (·.1)) →
      wpAny (model prog w) A (eval elt (compEnvC scope ((x, C + 1) :: cl) C env)) (TurnC g L m I C D oI oC (lst ys) { s with heap := h, toks := tk } fun y T' => ∃ T₂, T' = (C + 1, oK) :: T₂ ∧ J (i + 1) (ys ++ [y]) T₂) E' { s with heap := h, toks := tk }) ∧
    ∀ gg ys T, J n ys T → Apart (T.map (·.1)) → Fin { s with heap := gg } ys T
noncomputable def SrcC (prog : Program) (w : World) (A : Around) (g : Heap) (L : Addr) (m : Str → Option Value) (env : Env) (elt : Expr) (x : Str) (scope : Scope) (cl : List (Str × Addr)) (Fin : Shared → List Value → List (Addr × Obj) → Prop) (xv : Value) (s : Shared) : Prop :=
  ∃ (r : Addr) (a b : Int) (t u v : Tok) (n : Nat) (T₀ : List (Addr × Obj)) (J : Nat → List Value → List (Addr × Obj) → Prop), xv = .ref r ∧ SrcCF prog w A g L m env elt x scope cl Fin s r a b t u v n T₀ J
end
example : True := by
  k_with "m ne" => repeat' first | exact neWorld | exact neShared | exact neWs | exact neHd | exact neSt | exact neTb | exact neAround | exact nePos | exact neExpr | exact neScope | exact neEnv | refine nePair ?_ ?_ | infer_instance
  trivial
noncomputable section
namespace E_assign_comp_C_b
def P (prog : Program) (w : World) (A : Around) (E : Value → Shared → Prop) (g : Heap) (m : Str → Option Value) (env : Env) (elt iter : Expr) (x y : Str) (px py : Pos) (scope : Scope) (cl : List (Str × Addr)) (pos : Pos) (Q : Flow → Shared → Prop) (s₁ : Shared) (r : Addr) (a b : Int) (t u v : Tok) (n : Nat) (T₀ : List (Addr × Obj)) (J : Nat → List Value → List (Addr × Obj) → Prop) : Prop := (∀ n acc, cellsFrom n scope.names acc = (x, n) :: acc) → (∀ h, pushCells h scope.names = h.push cellNone) → (scope.kind = .function) → (∀ z ∈ scope.names, z.2 = .local → scope.names.lookup z.1 = some .local) → (scope.names.lookup x = some .cell) → (env.kindOf y = some .local) → ((env.scope.kind == .class || (env.scope.kind == .module && env.locals != env.globals)) = false) → (SrcCF prog w A g env.locals m env elt x scope cl (fun s₂ => FinA g env.locals m s₂ y Q) s₁ r a b t u v n T₀ J) → wpAny (model prog w) A (pyIter (.ref r)) (fun it_ s₂ => wpAny (model prog w) A (newList []) (fun acc s₃ => wpAny (model prog w) A (newFunctionEnv scope env.globals cl [] env.qual none .none (some env)) (fun cenv s₄ => codeAny (model prog w) A (.compStart (.ListComp elt [⟨.Name x px, iter, [], 0⟩] scope pos) 0 it_ acc { cenv with scope := relabel scope env }) (compPost (model prog w) A E (some (assign (.Name y py) env)) (fun _ s' => Q .next s') acc cenv.locals) s₄) E s₃) E s₂) E s₁
@[irreducible] def ζ := upick (by walk_at "m ne") ((ucat un16 (ucat un8 (ucat un2 un1))) P)
@[irreducible] def prog := ζ.1.1.1.1.1
@[irreducible] def w := ζ.1.1.1.1.2
@[irreducible] def A := ζ.1.1.1.2.1
@[irreducible] def E := ζ.1.1.1.2.2
@[irreducible] def g := ζ.1.1.2.1.1
@[irreducible] def m := ζ.1.1.2.1.2
@[irreducible] def env := ζ.1.1.2.2.1
@[irreducible] def iter := ζ.1.2.1.1.1
@[irreducible] def x := ζ.1.2.1.1.2
@[irreducible] def px := ζ.1.2.1.2.2
@[irreducible] def scope := ζ.1.2.2.1.2
@[irreducible] def cl := ζ.1.2.2.2.1
@[irreducible] def pos := ζ.1.2.2.2.2
@[irreducible] def Q := ζ.2.1.1.1.1
@[irreducible] def s₁ := ζ.2.1.1.1.2
@[irreducible] def r := ζ.2.1.1.2.1
@[irreducible] def a := ζ.2.1.1.2.2
@[irreducible] def b := ζ.2.1.2.1.1
@[irreducible] def v := ζ.2.1.2.2.2
@[irreducible] def n := ζ.2.2.1.1
@[irreducible] def T₀ := ζ.2.2.1.2
@[irreducible] def J := ζ.2.2.2
theorem core : P prog w A E g m env ζ.1.1.2.2.2 iter x ζ.1.2.1.2.1 px ζ.1.2.2.1.1 scope cl pos Q s₁ r a b ζ.2.1.2.1.2 ζ.2.1.2.2.1 v n T₀ J := by
  intro hcs hpc hkind hnames hx hy hp hF
  obtain ⟨hh, F, N, nd, hr, hsm, hn, hsz, j₀, turn, fin⟩ := hF
  refine wpAny_pyIter_range hr hsm ?_
  have W := range_walks (prog := prog) (w := w) (I := s₁.heap.objs.size) hh a n
  generalize hG : s₁.heap.push _ = G
  have upG : ∀ b o, s₁.heap.get? b = some o → G.get? b = some o := fun b o q => hG ▸ Heap.get?_push_of_some _ q
  have hGs : G.objs.size = s₁.heap.objs.size + 1 := by rw [← hG, Heap.size_push]
  have hit : IsRangeIter G s₁.heap.objs.size (a + (0 : Nat) * 1) ((n : Int) - (0 : Nat)) 1 := by
    show G.get? _ = some _
    rw [← hG, hn]; simpa using Heap.get?_push_size _ rfl
  generalize hI : s₁.heap.objs.size = I at hit hGs W
  have FG : Fr g env.locals G m := F.keeps upG
  have NG : News g env.locals G T₀ := N.grown upG
  refine wpAny_newObj_type ?_
  refine env_cell hcs hpc ?_
  dsimp only
  generalize hH2 : G.push { cls := .type "list", dict := none, data := .seq ([] : List Value).toArray } = H2
  have hH2s : H2.objs.size = I + 2 := by rw [← hH2, Heap.size_push, hGs]
  generalize hH3 : (H2.push { cls := .type "dict", data := .dict #[] }).push cellNone = H3
  have up2 : ∀ b o, G.get? b = some o → H2.get? b = some o := fun b o q => hH2 ▸ Heap.get?_push_of_some _ q
  have up3 : ∀ b o, H2.get? b = some o → H3.get? b = some o := fun b o q => hH3 ▸ Heap.get?_push_of_some _ (Heap.get?_push_of_some _ q)
  have old : ∀ b o, G.get? b = some o → H3.get? b = some o := fun b o q => up3 _ _ (up2 _ _ q)
  have hDa : H3.get? (I + 1) = some (lst []) := up3 _ _ (hH2 ▸ hGs ▸ Heap.get?_push_size _ rfl)
  have hC : H3.Ns (I + 2) (fun _ => none) := by
    have q := Heap.Ns.new H2 (.type "dict")
    rw [hH2s] at q
    exact q.at' fun o e => hH3 ▸ Heap.get?_push_of_some _ e
  have hK : H3.get? (I + 2 + 1) = some cellNone := by
    rw [← hH3, show I + 2 + 1 = (H2.push { cls := .type "dict", data := .dict #[] }).objs.size by rw [Heap.size_push, hH2s]]
    exact Heap.get?_push_size _ rfl
  rw [hGs, hH2s]
  have fresh₀ : ∀ c, I ≤ c → g.get? c = none := fun c hc => by
    cases q : g.get? c with
    | none => rfl
    | some o' => have q1 := Heap.lt_size (F.keep c o' q); rw [hI] at q1; exact absurd hc (Nat.not_le.mpr q1)
  have hLlt : env.locals < I := hI ▸ F.ns.lt
  have hT : ∀ c ∈ T₀.map (·.1), c < I := fun c hc => by
    obtain ⟨p, hp, rfl⟩ := List.mem_map.mp hc; exact hI ▸ Heap.lt_size (N p hp).1
  have ltT : ∀ k, I + k ∉ T₀.map (·.1) := fun k z => absurd (hT _ z) (Nat.not_lt.mpr (Nat.le_add_right _ _))
  have nd₀ : Apart (I :: (I + 2) :: (I + 1) :: (I + 2 + 1) :: T₀.map (·.1)) := by
    refine List.nodup_cons.mpr ⟨fun z => ?_, List.nodup_cons.mpr ⟨fun z => ?_, List.nodup_cons.mpr ⟨fun z => ?_, List.nodup_cons.mpr ⟨ltT 3, nd⟩⟩⟩⟩
    · rcases List.mem_cons.mp z with z | z
      · exact absurd z (Nat.ne_of_lt (by show @LT.lt Nat _ I (I + 2); lia))
      · rcases List.mem_cons.mp z with z | z
        · exact absurd z (Nat.ne_of_lt (by show @LT.lt Nat _ I (I + 1); lia))
        · rcases List.mem_cons.mp z with z | z
          · exact absurd z (Nat.ne_of_lt (by show @LT.lt Nat _ I (I + 2 + 1); lia))
          · exact ltT 0 z
    · rcases List.mem_cons.mp z with z | z
      · exact absurd z (Nat.ne_of_gt (by show @LT.lt Nat _ (I + 1) (I + 2); lia))
      · rcases List.mem_cons.mp z with z | z
        · exact absurd z (Nat.ne_of_lt (by show @LT.lt Nat _ (I + 2) (I + 2 + 1); lia))
        · exact ltT 2 z
    · rcases List.mem_cons.mp z with z | z
      · exact absurd z (Nat.ne_of_lt (by show @LT.lt Nat _ (I + 1) (I + 2 + 1); lia))
      · exact ltT 1 z
  have e1 : (I + 1 : Addr) ≠ I := ne3 I 1 0 (by decide)
  have e2 : (I + 2 : Addr) ≠ I := ne3 I 2 0 (by decide)
  have e3 : (I + 2 + 1 : Addr) ≠ I := ne3 I 3 0 (by decide)
  have e12 : (I + 1 : Addr) ≠ I + 2 := ne3 I 1 2 (by decide)
  have e13 : (I + 1 : Addr) ≠ I + 2 + 1 := ne3 I 1 3 (by decide)
  have e23 : (I + 2 : Addr) ≠ I + 2 + 1 := ne3 I 2 3 (by decide)
  have hCL : (I + 2 : Addr) ≠ env.locals := Nat.ne_of_gt (Nat.lt_of_lt_of_le hLlt (Nat.le_add_right _ _))
  have hDL : (I + 1 : Addr) ≠ env.locals := Nat.ne_of_gt (Nat.lt_of_lt_of_le hLlt (Nat.le_add_right _ _))
  have hKL : (I + 2 + 1 : Addr) ≠ env.locals := Nat.ne_of_gt (Nat.lt_of_lt_of_le hLlt (Nat.le_add_right I 3))
  have hIL : env.locals ≠ I := Nat.ne_of_lt hLlt
  have loop : ∀ s₃ : Shared, s₃ = { s₁ with heap := H3 } →
      codeAny (model prog w) A (.compLoop (.ListComp ζ.1.1.2.2.2 [⟨.Name x px, iter, [], 0⟩] scope pos) 0 (.ref I) (.ref (I + 1)) (compEnvC scope ((x, I + 2 + 1) :: cl) (I + 2) env))
        (compPost (model prog w) A E (some (assign (Expr.Name ζ.1.2.1.2.1 ζ.1.2.2.1.1) env)) (fun x s' => Q Flow.next s') (Value.ref (I + 1)) (I + 2)) s₃ := by
    rintro s₃ rfl
    refine codeAny_compLoop_tests
      (fun k s' => ∃ h' tk i ys m' oK x₀ T, s' = { s₁ with heap := h', toks := tk } ∧ i ≤ n ∧ k = n + 1 - i ∧ ys.length = i ∧ IsRangeIter h' I (a + (i : Nat) * 1) ((n : Int) - (i : Nat)) 1 ∧ Fr g env.locals h' m ∧ h'.Ns (I + 2) m' ∧ oK.data = .cell x₀ ∧
        News g env.locals h' ((I + 1, lst ys) :: (I + 2 + 1, oK) :: T) ∧ Apart (I :: (I + 2) :: (I + 1) :: (I + 2 + 1) :: T.map (·.1)) ∧ J i ys T) ?_ (n + 1)
      ⟨H3, _, 0, [], _, cellNone, none, T₀, rfl, Nat.zero_le _, rfl, rfl, W.frame _ _ _ hit fun b _ o e => old b o e, FG.keeps old, hC, rfl, fun p hp => ?_, nd₀, j₀⟩
    · rintro k s' ⟨h', tk, i, ys, m', oK, x₀, T, rfl, hi, rfl, hyl, hst', F', hn', hoK, N', nd', j⟩
      obtain ⟨q1, q⟩ := List.nodup_cons.mp nd'
      obtain ⟨q2, q⟩ := List.nodup_cons.mp q
      obtain ⟨q3, q⟩ := List.nodup_cons.mp q
      obtain ⟨q4, q5⟩ := List.nodup_cons.mp q
      have nI : I ∉ T.map (·.1) := fun z => q1 (List.mem_cons_of_mem _ (List.mem_cons_of_mem _ (List.mem_cons_of_mem _ z)))
      have nC : (I + 2) ∉ T.map (·.1) := fun z => q2 (List.mem_cons_of_mem _ (List.mem_cons_of_mem _ z))
      have nD : (I + 1) ∉ T.map (·.1) := fun z => q3 (List.mem_cons_of_mem _ z)
      have mT : ∀ {p : Addr × Obj} {T : List (Addr × Obj)}, p ∈ T → p.1 ∈ T.map (·.1) := fun hp => List.mem_map_of_mem (f := (·.1)) hp
      have offI : ∀ p ∈ (I + 1, lst ys) :: (I + 2 + 1, oK) :: T, p.1 ≠ I := fun p hp e => by
        rcases List.mem_cons.mp hp with rfl | hp
        · exact e1 e
        · rcases List.mem_cons.mp hp with rfl | hp
          · exact e3 e
          · exact nI (e ▸ mT hp)
      by_cases hlt : i < n
      · refine W.item i _ _ _ hlt hst' fun v h₂ tk₂ hPv hst₂ hk₂ => ?_
        obtain ⟨t', rfl⟩ := hPv
        have F₂ := fr_but F' hk₂ hIL (fresh₀ _ (Nat.le_refl _))
        have N₂ := news_but N' hk₂ offI
        have hn₂ := hn'.at' fun o e => hk₂ _ o (by rw [List.mem_singleton]; exact e2) e
        have zK := N₂ _ (List.mem_cons_of_mem _ List.mem_cons_self)
        have hkx : (compEnvC scope ((x, I + 2 + 1) :: cl) (I + 2) env).kindOf x = some .cell := lookup_relabel_cell hx
        refine wpAny_assign_Name (wpAny_storeName_cell (c := I + 2 + 1) (v₀ := x₀) (by simp [compEnvC, relabel, hkind]) hkx (by simp [compEnvC]) ⟨oK, zK.1, hoK⟩ (fun h₃ hc₃ hs₃ => ?_))
        obtain ⟨oK', zK', hoK'⟩ := hc₃
        refine wpAny_tests_nil ?_
        simp only [if_true]
        have hst₃ : IsRangeIter h₃ I (a + ((i + 1 : Nat) : Nat) * 1) ((n : Int) - ((i + 1 : Nat) : Nat)) 1 := W.frame (i + 1) _ _ hst₂ fun b hb o e => hs₃.extBut b o (by
          rw [List.mem_singleton] at hb; rw [hb]; exact Ne.symm e3) e
        have F₃ : Fr g env.locals h₃ m := F₂.change hs₃ hKL (fresh₀ _ (Nat.le_add_right I 3))
        obtain ⟨oC, heC, hoC⟩ := ns_obj (hn₂.sameBut hs₃ e23)
        have N₃ : News g env.locals h₃ ((I, _) :: (I + 2, oC) :: (I + 1, lst ys) :: (I + 2 + 1, oK') :: T) := fun p hp => by
          rcases List.mem_cons.mp hp with rfl | hp
          · exact ⟨hst₃, Ne.symm hIL, fresh₀ _ (Nat.le_refl _)⟩
          · rcases List.mem_cons.mp hp with rfl | hp
            · exact ⟨heC, hCL, fresh₀ _ (Nat.le_add_right _ _)⟩
            · rcases List.mem_cons.mp hp with rfl | hp
              · have z := N₂ _ List.mem_cons_self
                exact ⟨hs₃.extBut _ _ e13 z.1, z.2⟩
              · rcases List.mem_cons.mp hp with rfl | hp
                · exact ⟨zK', zK.2⟩
                · have z := N₂ _ (List.mem_cons_of_mem _ (List.mem_cons_of_mem _ hp))
                  exact ⟨hs₃.extBut _ _ (fun q => q4 (q ▸ mT hp)) z.1, z.2⟩
        refine wpAny_mono (turn i t' ys T I _ (I + 2) oC (I + 1) oK' h₃ _ _ hlt j hoK' F₃ N₃ nd') (fun yv s₄ hq => ?_) fun _ _ e => e
        obtain ⟨h₄, tk₄, T', rfl, F₄, N₄, nd₄, T₂, rfl, j₄⟩ := hq
        have zI := (N₄ _ List.mem_cons_self).1
        have zC := (N₄ _ (List.mem_cons_of_mem _ List.mem_cons_self)).1
        have zD := N₄ _ (List.mem_cons_of_mem _ (List.mem_cons_of_mem _ List.mem_cons_self))
        have zK := N₄ _ (List.mem_cons_of_mem _ (List.mem_cons_of_mem _ (List.mem_cons_of_mem _ List.mem_cons_self)))
        refine append_at (hsz := by show ys.toArray.size ≤ sizeLine; rw [List.size_toArray, hyl]; exact Nat.le_trans hi (Nat.le_trans hsz (by decide))) zD.1 fun h₅ hs₅ hD₅ => ?_
        obtain ⟨r1, r⟩ := List.nodup_cons.mp nd₄
        obtain ⟨r2, r⟩ := List.nodup_cons.mp r
        obtain ⟨r3, r⟩ := List.nodup_cons.mp r
        refine ⟨n + 1 - (i + 1), by lia, h₅, tk₄, i + 1, ys ++ [yv], _, oK', _, T₂, rfl, hlt, rfl, by rw [List.length_append, List.length_singleton, hyl], ?_, F₄.change hs₅ zD.2.1 zD.2.2,
          (hoC.ns zC).sameBut hs₅ (Ne.symm e12), hoK', fun p hp => ?_, nd₄, j₄⟩
        · exact hs₅.extBut _ _ (Ne.symm e1) zI
        · rcases List.mem_cons.mp hp with rfl | hp
          · exact ⟨hD₅.trans (congrArg some (lst_snoc ys yv)), zD.2⟩
          · rcases List.mem_cons.mp hp with rfl | hp
            · exact ⟨hs₅.extBut _ _ (Ne.symm e13) zK.1, zK.2⟩
            · have z := N₄ p (List.mem_cons_of_mem _ (List.mem_cons_of_mem _ (List.mem_cons_of_mem _ (List.mem_cons_of_mem _ hp))))
              exact ⟨hs₅.extBut _ _ (fun q => r3 (List.mem_cons_of_mem _ (q ▸ mT hp))) z.1, z.2⟩
      · obtain rfl : i = n := Nat.le_antisymm hi (Nat.not_lt.mp hlt)
        refine W.done _ _ _ hst' fun h₂ tk₂ hk₂ => ?_
        have F₂ := fr_but F' hk₂ hIL (fresh₀ _ (Nat.le_refl _))
        have N₂ := news_but N' hk₂ offI
        have hn₂ := hn'.at' fun o e => hk₂ _ o (by rw [List.mem_singleton]; exact e2) e
        show wpAny _ A (assign (.Name ζ.1.2.1.2.1 ζ.1.2.2.1.1) env (.ref (I + 1))) _ _ _
        refine wpAny_assign_Name (wpAny_storeName_local hy F₂.ns (fun h₃ hn₃ hs₃ => ?_) hp)
        have hL₀ : g.get? env.locals = none := Heap.get?_none_of_le F₂.above
        have F₃ : Fr g env.locals h₃ (fun z => if z = ζ.1.2.1.2.1 then some (.ref (I + 1)) else m z) := ⟨hn₃, fun b o e => hs₃.extBut b o (fun q => by rw [q, hL₀] at e; cases e) (F₂.keep b o e), F₂.above⟩
        refine ⟨m', hn₂.sameBut hs₃ hCL, fun h'' hs'' => ?_⟩
        refine fin G ys T j q5 (I + 1) h'' _ (F₃.change hs'' hCL (fresh₀ _ (Nat.le_add_right _ _))) (fun p hp => ?_) ?_
        · have hp' : p ∈ (I + 1, lst ys) :: (I + 2 + 1, oK) :: T := by
            rcases List.mem_cons.mp hp with rfl | hp
            · exact List.mem_cons_self
            · exact List.mem_cons_of_mem _ (List.mem_cons_of_mem _ hp)
          have z : h₃.get? p.1 = some p.2 := hs₃.extBut _ _ (N₂ p hp').2.1 (N₂ p hp').1
          refine ⟨hs''.extBut _ _ ?_ z, (N₂ p hp').2⟩
          rcases List.mem_cons.mp hp with rfl | hp
          · exact e12
          · exact fun q => nC (q ▸ mT hp)
        · exact off1_of fun p hp q => nD (q ▸ mT hp)
    · rcases List.mem_cons.mp hp with rfl | hp
      · exact ⟨hDa, hDL, fresh₀ _ (Nat.le_add_right _ _)⟩
      · rcases List.mem_cons.mp hp with rfl | hp
        · exact ⟨hK, hKL, fresh₀ _ (Nat.le_add_right I 3)⟩
        · exact ⟨old _ _ (NG p hp).1, (NG p hp).2⟩
  exact codeAny_compStart_list (loop _ rfl) (W.self 0 _ _ _ (W.frame _ _ _ hit fun b _ o e => old b o e) (loop _ rfl))
end E_assign_comp_C_b
end
theorem assign_comp_C_b : ∀ {prog w A E g m env elt iter x y px py scope cl pos Q s₁ r a b t u v n T₀ J}, E_assign_comp_C_b.P prog w A E g m env elt iter x y px py scope cl pos Q s₁ r a b t u v n T₀ J := fun {prog w A E g m env elt iter x y px py scope cl pos Q s₁ r a b t u v n T₀ J} => by with_unfolding_all exact pk (c := E_assign_comp_C_b.ζ) rfl E_assign_comp_C_b.core (((((prog, w), (A, E)), ((g, m), (env, elt))), (((iter, x), (y, px)), ((py, scope), (cl, pos)))), ((((Q, s₁), (r, a)), ((b, t), (u, v))), ((n, T₀), J)))
section
variable {prog : Program} {w : World} {A : Around} {E : Value → Shared → Prop} {s : Shared} {g : Heap} {L : Addr} {m : Str → Option Value} {env : Env}
theorem assign_comp_C {elt iter : Expr} {x y : Str} {px py : Pos} {scope : Scope} {cl : List (Str × Addr)} {pos spos : Pos} {Q : Flow → Shared → Prop} (F₀ : Fr g L s.heap m) (hLe : env.locals = L)
    (hsw : swapsWith (.ListComp elt [⟨.Name x px, iter, [], 0⟩] scope pos) (some (.Name y py)) spos.line env = pure true)
    (hclos : closureFor scope env = pure cl) (hcs : ∀ n acc, cellsFrom n scope.names acc = (x, n) :: acc) (hpc : ∀ h, pushCells h scope.names = h.push cellNone) (hkind : scope.kind = .function)
    (hnames : ∀ z ∈ scope.names, z.2 = .local → scope.names.lookup z.1 = some .local) (hx : scope.names.lookup x = some .cell)
    (hy : env.kindOf y = some .local) (hp : (env.scope.kind == .class || (env.scope.kind == .module && env.locals != env.globals)) = false)
    (h : wpAny (model prog w) A (eval iter env) (SrcC prog w A g L m env elt x scope cl (fun s₂ => FinA g L m s₂ y Q)) E s)
    (hs : ∀ x, foldedSetIterable iter env x = pure x := by intro _; rfl) :
    wpAny (model prog w) A (exec (.Assign [.Name y py] (.ListComp elt [⟨.Name x px, iter, [], 0⟩] scope pos) spos) env) Q E s := by
  subst hLe
  rw [exec_Assign_Name_used _ _ _ _ hsw]
  refine wpAny_bind (wpAny_standAt (wpAny_bind ?_))
  show wpAny _ A (do let _ ← comprehension (.ListComp elt [⟨.Name x px, iter, [], 0⟩] scope pos) scope env _ (newList []) false (eval iter env) (some (assign (.Name y py) env))) _ _ s
  refine wpAny_bind (wpAny_mono (wpAny_comprehension_free (use := some (assign (.Name y py) env)) (Q := fun _ s' => Q .next s') rfl hs hclos hkind hnames
    (wpAny_mono h (fun xv s₁ h₁ => ?_) fun _ _ e => e)) (fun _ s' hq => wpAny_pure (wpAny_pure hq)) fun _ _ e => e)
  obtain ⟨r, a, b, t, u, v, n, T₀, J, rfl, hF⟩ := h₁
  exact assign_comp_C_b hcs hpc hkind hnames hx hy hp hF
theorem range_srcC {elt : Expr} {x : Str} {scope : Scope} {cl : List (Str × Addr)} {Fin : Shared → List Value → List (Addr × Obj) → Prop} {r : Addr} {a b : Int} {t u v : Tok} {n : Nat} {T₀ : List (Addr × Obj)}
    (J : Nat → List Value → List (Addr × Obj) → Prop) (hh : A.handled = none) (F : Fr g L s.heap m) (N : News g L s.heap T₀) (nd : Apart (T₀.map (·.1)))
    (hr : IsRange s.heap r a b 1 t u v) (hsm : Builtin.Range.small a b 1 = true) (hn : Builtin.Range.rangeSize a b 1 = ((n : Nat) : Int)) (hsz : n ≤ 10000) (j₀ : J 0 [] T₀)
    (turn : ∀ i t ys T I oI C oC D oK h tk (E' : Value → Shared → Prop), i < n → J i ys T → oK.data = .cell (some (.int (a + (i : Int)) t)) → Fr g L h m → News g L h ((I, oI) :: (C, oC) :: (D, lst ys) :: (C + 1, oK) :: T) → Apart (I :: C :: D :: (C + 1) :: T.map (·.1)) →
      wpAny (model prog w) A (eval elt (compEnvC scope ((x, C + 1) :: cl) C env)) (TurnC g L m I C D oI oC (lst ys) { s with heap := h, toks := tk } fun y T' => ∃ T₂, T' = (C + 1, oK) :: T₂ ∧ J (i + 1) (ys ++ [y]) T₂) E' { s with heap := h, toks := tk })
    (fin : ∀ gg ys T, J n ys T → Apart (T.map (·.1)) → Fin { s with heap := gg } ys T) :
    SrcC prog w A g L m env elt x scope cl Fin (.ref r) s :=
  ⟨r, a, b, t, u, v, n, T₀, J, rfl, hh, F, N, nd, hr, hsm, hn, hsz, j₀, turn, fin⟩
end
end Mine
end
section
open PySem PySem.W PySem.W.X PySem.Calls PyProof.Rows PyProof.Rows.LCg PyProof.Rows.LCt
namespace Mine
local macro_rules | `(tactic| walk_at $s:str) => let t := Lean.Syntax.mkStrLit ("z" ++ s.getString); `(tactic| k_extra $t)
local macro_rules | `(tactic| k_upd) => `(tactic| walk_at "k_upd")
local macro_rules | `(tactic| k_updF) => `(tactic| walk_at "k_updF")
local macro_rules | `(tactic| k_lt $h:ident) => `(tactic| (have hND := apart_lt $h (by k_dflt assumption); clear $h))
example : True := by
  k_with "zc" => (k_whole; intro _ _ _ _ z9P z9F z9N z9D; (first | (obtain ⟨⟨_, z9v⟩, z9T⟩ := z9P; subst z9v; subst z9T; (try dsimp only)) | (obtain ⟨z9v, z9T⟩ := z9P; subst z9v; subst z9T; (try dsimp only)) | skip); (try dsimp only [wsT, List.cons_append, List.nil_append] at z9N z9D))
  k_with "zm ne" => repeat' first | exact neWorld | exact neShared | exact neWs | exact neHd | exact neSt | exact neTb | exact neAround | exact nePos | exact neExpr | exact neScope | exact neEnv | refine nePair ?_ ?_ | infer_instance
  k_with "zm pos" => first | exact UpdP.head | (refine' UpdP.tail ?z9a; (case z9a => walk_at "m pos"))
  k_with "zm posF" => first | exact UpdFP.head | (refine' UpdFP.tail ?z9a; (case z9a => walk_at "m posF"))
  k_with "zk_upd" => (refine' upd_nd ?z9g ?z9f; (case z9f => walk_at "m pos"); (case z9g => k_dflt assumption))
  k_with "zk_updF" => (refine' updF_nd ?z9g ?z9f; (case z9f => walk_at "m posF"); (case z9g => k_dflt assumption))
  k_with "zm take1" => first | exact Take.head | (refine' Take.tail ?z9c; (case z9c => walk_at "m take1"))
  k_with "zm take2" => first | exact TakeAll.nil | (refine' TakeAll.cons ?z9a ?z9b; (case z9a => walk_at "m take1"); (case z9b => walk_at "m take2")) | ((fail_if_success (refine' TakeAll.cons ?_ ?_)); first | exact TakeAll.whole | exact TakeAll.front | (refine' TakeAll.joined ?z9d ?z9e; (case z9d => walk_at "m take2b"); (case z9e => walk_at "m take2")) | (refine' TakeAll.skip ?z9h; (case z9h => walk_at "m take2")) | (refine' TakeAll.back ?z9h; (case z9h => walk_at "m take2")))
  k_with "zm take2b" => first | exact TakeAll.nil | (refine' TakeAll.cons ?z9ab ?z9bb; (case z9ab => walk_at "m take1"); (case z9bb => walk_at "m take2b")) | ((fail_if_success (refine' TakeAll.cons ?_ ?_)); first | exact TakeAll.whole | exact TakeAll.front | (refine' TakeAll.joined ?z9db ?z9eb; (case z9db => walk_at "m take2c"); (case z9eb => walk_at "m take2b")) | (refine' TakeAll.skip ?z9hb; (case z9hb => walk_at "m take2b")) | (refine' TakeAll.back ?z9hb; (case z9hb => walk_at "m take2b")))
  k_with "zm take2c" => first | exact TakeAll.nil | (refine' TakeAll.cons ?z9ac ?z9bc; (case z9ac => walk_at "m take1"); (case z9bc => walk_at "m take2c")) | ((fail_if_success (refine' TakeAll.cons ?_ ?_)); first | exact TakeAll.whole | exact TakeAll.front | (refine' TakeAll.joined ?z9dc ?z9ec; (case z9dc => walk_at "m take2c"); (case z9ec => walk_at "m take2c")) | (refine' TakeAll.skip ?z9hc; (case z9hc => walk_at "m take2c")) | (refine' TakeAll.back ?z9hc; (case z9hc => walk_at "m take2c")))
  k_with "zm take" => ((try dsimp only [wsT, List.cons_append, List.nil_append]); walk_at "m take2")
  k_with "ztruthy ref" => (k_here; (with_reducible show wpAny _ _ (truthy (Value.ref _)) _ _ _); first | (refine' truthy_cons (by k_asm) (by k_mem) (by lia) ?_; k_whole; intro _) | (refine' truthy_nil (by k_asm) (by k_mem) ?_; k_whole; intro _))
  k_with "zcall builtin:list.pop" => (k_here; (with_reducible show wpAny _ _ (call (Value.builtin _) [Value.ref _, Value.int 0 _]) _ _ _); (refine' pop0 (by k_asm) (by k_asm) (by k_upd) (by lia) ?_; k_whole; intro _ _ _))
  k_with "zcall builtin:list.insert" => (k_here; (with_reducible show wpAny _ _ (call (Value.builtin _) [Value.ref _, Value.int 0 _, _]) _ _ _); (refine' insert0 (by k_asm) (by k_asm) (by k_upd) (by lia) ?_; k_whole; intro _ _ _))
  k_with "zcall builtin:str.join" => (k_here; (with_reducible show wpAny _ _ (call (Value.builtin "str.join") [Value.str _ _, Value.ref _]) _ _ _); (refine' join_txs _ (by first | exact of_nil | exact of_cs) (by k_asm) (by k_mem) (by first | assumption | (apply_assumption; done)) (by decide) ‹_› ?_; k_whole; intro _ _))
  k_with "zcall builtin:len" => (k_here; (with_reducible show wpAny _ _ (call (Value.builtin "len") [Value.ref _]) _ _ _); first | (refine' len_tup (by k_asm) (by k_mem) (by lia) ?_; k_whole; intro _ _) | (refine' len_lst (by k_asm) (by k_mem) (by lia) ?_; k_whole; intro _ _))
  k_with "zm sh" => first | exact Sh.int _ | exact Sh.bool _ | exact ShA.nil | exact ShA.ints _ | exact ShA.txs (by k_dflt assumption) | exact Sh.str (by k_dflt assumption) | (refine' Sh.list ?_; walk_at "m sh") | (refine' Sh.tup ?_; walk_at "m sh") | refine' ShA.cons (by walk_at "m sh") (by walk_at "m sh")
  k_with "zm rd" => first | exact Rd.int _ _ | exact Rd.str _ _ | exact Rd.bool _ | exact RdA.nil | assumption | exact RdA.ints ‹_› | exact RdA.strs ‹_› | ((with_reducible show Rd _ _ _); first | refine' Rd.list (by k_mem) (by walk_at "m rd") | refine' Rd.tup (by k_mem) (by walk_at "m rd")) | refine' RdA.cons (by walk_at "m rd") (by walk_at "m rd")
  k_with "zcompareOp Eq ref ref" => (k_here; k_dflt (refine' eq_rd (led := _) (by k_asm) (by walk_at "m rd") (by walk_at "m rd") (by walk_at "m sh") (by walk_at "m sh") (by ke_room) ?_; k_whole))
  k_with "zcompareOp NotEq ref ref" => (k_here; k_dflt (refine' ne_rd (led := _) (by k_asm) (by walk_at "m rd") (by walk_at "m rd") (by walk_at "m sh") (by walk_at "m sh") (by ke_room) ?_; k_whole))
  k_with "zcall type:tuple" => (k_here; k_dflt (refine' tuple_lst (by k_asm) (by k_asm) (by k_mem) (by lia) ?_; k_whole; intro _ _ _ _ z9l; (try k_lt z9l)))
  k_with "zCompSrc" => refine' Mine.halt ?_
  k_with "zCompSrcT" => refine' Mine.halt ?_
  k_with "zeval ListComp" => (k_here; first
    | ((with_reducible show wpAny _ _ (eval (Expr.ListComp _ [Comprehension.mk (Expr.Name _ _) _ [] _] _ _) _) _ _ _); (refine LCg.ListComp_U (F₀ := by k_asm) (by with_unfolding_all rfl) (by decide) (by rfl) (by decide) (by rfl) ?_))
    | ((with_reducible show wpAny _ _ (eval (Expr.ListComp _ [Comprehension.mk (Expr.Name _ _) _ [_] _] _ _) _) _ _ _); (refine LCt.ListComp_T (F₀ := by k_asm) (by with_unfolding_all rfl) (by decide) (by rfl) (by decide) (by rfl) ?_)))
  k_with "zexec Assign cons ListComp" => (k_here; first
    | ((with_reducible show wpAny _ _ (exec (Stmt.Assign [Expr.Name _ _] (Expr.ListComp _ [Comprehension.mk (Expr.Name _ _) _ [] _] _ _) _) _) _ _ _); (refine LCg.Assign_ListComp_U (F₀ := by k_asm) (by rfl) (by with_unfolding_all rfl) (by with_unfolding_all rfl) (by decide) (by rfl) (by decide) (by rfl) (by rfl) (by rfl) ?_))
    | ((with_reducible show wpAny _ _ (exec (Stmt.Assign [Expr.Name _ _] (Expr.ListComp _ [Comprehension.mk (Expr.Name _ _) _ [_] _] _ _) _) _) _ _ _); (refine LCt.Assign_ListComp_T (F₀ := by k_asm) (by rfl) (by with_unfolding_all rfl) (by with_unfolding_all rfl) (by decide) (by rfl) (by decide) (by rfl) (by rfl) (by rfl) ?_)))
  k_with "zm go" => repeat' ((fail_if_success (with_reducible show wpAny _ _ (exec (Stmt.For _ _ _ _ _) _) _ _ _)); (fail_if_success (with_reducible show wpAny _ _ (pyIter _) _ _ _)); first | (k_unfold; (try dsimp only)) | walk1 | (dsimp only; walk1) | (leave1; walk_say "STEP leave1"; try dsimp only))
  k_with "zm loc" => first | exact trivial | exact ⟨by first | rfl | (dsimp only; rfl), by walk_at "m loc"⟩
  k_with "zm sub" => first | exact trivial | exact ⟨by k_memK, by walk_at "m sub"⟩
  k_with "zm for" => (refine wpAny_For ?_ (by intro _; rfl))
  k_with "zcall ref" => (k_here; k_dflt ((first
    | (refine Mine.fa 62 ?_; refine' Mine.cs (S := sp_longest _ ⟨_, _, _, _, _, _, _, _, _, _, _, _, _, _, _, _, _, _⟩ _ ‹_› (by lia) (by (dsimp only; lia)) (by (dsimp only; lia))) (h := ?_))
    | (refine Mine.fa 69 ?_; refine' Mine.cs (S := sp_indent _ ⟨_, _, _, _, _, _, _, _, _, _, _, _, _, _, _, _, _, _⟩ _ ‹_› (by lia) (by (dsimp only; lia)) (by (dsimp only; lia)) _ _ (by lia) (by lia)) (h := ?_))
    | (rename (∀ _ : Tok, Spec _ _ _ _ _ _) => z9S; refine' Mine.cs (S := z9S _) (h := ?_))); walk_at "c"))
  k_with "zcompareOp NotEq ref ref" => (k_here; k_dflt (refine' ne_full (by k_asm) (by k_mem) (by k_mem) ‹_› ‹_› (List.cons_ne_nil _ _) (by ke_room) ?_; k_whole))
  k_with "zsubscriptTail Name Name ref int" => (k_here; k_dflt (refine' names_item (by k_asm) (by k_mem) (by lia) ?_; k_whole; intro _))
  k_with "zbinaryOp Mult str int" => (k_here; (with_reducible show wpAny _ _ (binaryOp _ _ (Value.int (Int.fdiv _ 4) _)) _ _ _); k_dflt (refine' hex_mul (by lia) (by lia) ?_; k_whole; intro _ _))
  k_with "zbinaryOp Add str str" => (k_here; (with_reducible show wpAny _ _ (binaryOp _ (Value.str (_ ++ Txt.item _ _) _) _) _ _ _); k_dflt (refine' hex_add (by lia) (by lia) ?_; k_whole; intro _ _))
  k_with "zcall type:list" => (k_here; k_dflt (refine' list_text (by rfl) (by k_asm) (by k_asm) (by lia) ?_; k_whole; intro _ _ _ _ _ _ _ z9l _; (try k_lt z9l)))
  k_with "zeval Lambda" => (k_here; kn_here; k_dflt (refine' kla_eval rfl ?_); (first
    | (k_dflt (refine' kla_nest (by k_asm) (by k_asm) (by k_asm) ?z9a rfl ?z9b ?z9c ?z9d ?z9e ?_; (case z9a => kn_code); (case z9b => k_updF); (case z9c => kn_triples); (case z9d => kn_among); (case z9e => exact rfl); k_whole); intro _ _ _ _ _ _ _ _ _ z9N _ _ z9a z9b; (try dsimp only at z9N); (have z9D := apart_lt2 z9a (by k_dflt assumption) z9b); clear z9a z9b)
    | (k_dflt (refine' kla_hit (by k_asm) (by k_asm) (by k_asm) ?z9a rfl ?z9b ?z9c ?z9d ?z9e ?_; (case z9a => kn_code); (case z9b => k_mem); (case z9c => kn_triples); (case z9d => kn_hit); (case z9e => exact rfl); k_whole); intro _ _ _ _ _ z9N z9a; (try dsimp only at z9N); (have z9D := apart_lt z9a (by k_dflt assumption)); clear z9a)))
  k_with "zsetAttr ref" => (k_here; (rename (CodeHd _ _ _) => hCH); k_dflt (refine' kfa_set (by k_asm) (by k_asm) (by k_updF) ?_; k_whole; intro _ _ _ _ _ _ _ z9l; k_lt z9l))
  k_with "zcall ref" => (k_here; k_dflt (refine Mine.fa 150 ?_; refine' cls_spec (fI := 126) (C := 150) (P := fun x dx T' => ∃ d : Hd, T' = hdT _ d ∧ d.x = x ∧ d.dx = dx ∧ d.fp = _ ∧ d.ln = 1 ∧ d.vs = []) (fun x dx => sp_ninit x dx _) (by k_asm) (by k_asm) (by k_asm) (by k_asm) (by k_dflt assumption) (by walk_at "m take") (by k_is) (by k_is) (by k_is) (ale_lv (by rfl) (Nat.le_of_ble_eq_true rfl) (Nat.le_of_ble_eq_true rfl)) ?_; k_whole; intro _ _ _ _ _ z9P _ _ _; (obtain ⟨_, z9T, z9x, _, _, _, _⟩ := z9P); subst z9T; subst z9x))
  k_with "zEach" => (k_dflt (refine each_flag ‹_› ?_; intro _))
  k_with "zbinaryOp LShift int int" => (k_here; k_dflt (refine shl1 ‹_› ?_; intro _ _))
  k_with "zcall builtin:hex" => (k_here; k_dflt (refine hexp ‹_› ?_; intro _ _))
  k_with "zgetMethod ref" => (k_here; (with_reducible show wpAny _ _ (getMethod _ (Str.ofString "read") _) _ _ _); k_dflt (refine' kfa_get (by k_asm) (by k_mem) (by k_mem) ‹_› (if_pos rfl) ?_; k_whole; intro _))
  k_with "zgetMethod ref" => (k_here; (with_reducible show wpAny _ _ (getMethod _ (Str.ofString "sub") _) _ _ _); k_dflt (refine' patK (by k_asm) (by k_asm) (by k_is) ?_; k_whole))
  k_with "zcall builtin:re.Pattern.sub" => (k_here; (first
    | (k_dflt (refine' crlfK (by k_asm) (by k_asm) (by k_asm) (by k_is) rfl (by k_is) rfl rfl rfl (by lia) ?_); k_whole; intro _ _ _ _ _)
    | (k_dflt (refine' dotsK (by k_asm) (by k_asm) (by k_asm) (by k_is) rfl (by k_is) rfl rfl rfl (by lia) ?_); k_whole; intro _ _ _ _ _)))
  k_with "zcall builtin:iter" => (k_here; k_dflt (refine' ci_makeL (by k_asm) (by k_asm) (by k_mem) ?_; k_whole; intro _ _ _ _ z9l; (try k_lt z9l)))
  k_with "zcompareOp In str str" => (k_here; k_dflt (refine' in_ws (by first | assumption | (apply_assumption; k_mem)) ‹_› ?_; k_whole))
  k_with "zcompareOp Eq str str" => (k_here; k_dflt (first | ((with_reducible show wpAny _ _ (compareOp _ _ (Value.str (Str.ofString "\"") _)) _ _ _); refine' eq_ch of_q ‹_› ?_; k_whole) | ((with_reducible show wpAny _ _ (compareOp _ _ (Value.str (Str.ofString "\\") _)) _ _ _); refine' eq_ch of_bs ‹_› ?_; k_whole)))
  k_with "zinplaceOp Add str str" => (k_here; k_dflt (refine' iadd_tx (by first | exact of_nil | assumption | rfl) (by first | lia | (simp; done) | (simp; lia)) ?_; k_whole; intro _ _))
  trivial
section
theorem sp_ninit {w : World} (x dx fp : Addr) : Spec w 900 126 [.ref x, .ref fp] ([(x, instObj 150 dx), (dx, dictOf [] 0)]) (fun v T' => v = .none ∧ ∃ d : Hd, T' = hdT w d ∧ d.x = x ∧ d.dx = dx ∧ d.fp = fp ∧ d.ln = 1 ∧ d.vs = []) := by
  intro g s R p loose mean mg mb X Tp G ND k
  revert X; k_fill; intro X
  refine' enter (binds := [(Str.ofString "self", .ref x), (Str.ofString "fp", .ref fp)]) X Tp G ?k6 ?k7 ?k8 ?k9 ?kB ?_ ?c2 ?c3 ?c4 ?c5
  case k6 => k_is
  case k7 => k_is
  case k8 => decide
  case k9 => exact BindsTo.of_eq rfl
  case c5 => decide
  case kB => exact locs rfl
  case c2 => exact rfl
  case c3 => exact rfl
  case c4 => exact rfl
  intro L' h' F' N'
  try dsimp only
  try dsimp only [wsT, List.cons_append, List.nil_append] at N' ND
  try k_fold
  walk_at "m go"
  try dsimp only
  refine' lve_take (T := hdT w ⟨x, dx, _, fp, 1, [], _, _, _, _, _, _, _⟩) ‹_› ‹_› (by k_dflt assumption) ?tk ?_
  case tk => (try dsimp only [hdT]); walk_at "m take"
  intro G' ND'
  exact k _ _ _ _ ⟨rfl, _, rfl, rfl, rfl, rfl, rfl, rfl⟩ G' ND'
theorem sp_push {w : World} (d : Hd) (hv : d.vs.length ≤ 20) (v1 : Value) : Spec w 900 147 [.ref d.x, v1] (hdT w d) (fun v T' => v = .none ∧ T' = hdT w { d with vs := d.vs ++ [v1], n := d.n + 1 }) := by
  intro g s R p loose mean mg mb X Tp G ND k
  revert X; k_fill; intro X
  refine' enter (binds := [(Str.ofString "self", .ref d.x), (Str.ofString "token", v1)]) X Tp G ?k6 ?k7 ?k8 ?k9 ?kB ?_ ?c2 ?c3 ?c4 ?c5
  case k6 => k_is
  case k7 => k_is
  case k8 => decide
  case k9 => exact BindsTo.of_eq rfl
  case c5 => decide
  case kB => exact locs rfl
  case c2 => exact rfl
  case c3 => exact rfl
  case c4 => exact rfl
  intro L' h' F' N'
  try dsimp only
  try dsimp only [wsT, List.cons_append, List.nil_append] at N' ND
  try k_fold
  try dsimp only [hdT] at N' ND
  walk_at "m go"
  try dsimp only
  simp only [List.push_toArray] at *
  refine' lve_take (T := hdT w { d with vs := d.vs ++ [v1], n := d.n + 1 }) ‹_› ‹_› (by k_dflt assumption) ?tk ?_
  case tk => (try dsimp only [hdT]); walk_at "m take"
  intro G' ND'
  exact k _ _ _ _ ⟨rfl, rfl⟩ G' ND'
theorem sp_getp {w : World} (d : Hd) (vs : List Value) (hv : vs.length ≤ 20) (v1 : Value) (hdv : d.vs = v1 :: vs) : Spec w 900 140 [.ref d.x] (hdT w d) (fun v T' => v = v1 ∧ T' = hdT w { d with vs := vs, n := d.n + 1 }) := by
  obtain ⟨x, dx, pb, fp, ln, vs0, n, k1, k2, k3, k4, k5, k6⟩ := d
  dsimp only at hdv
  subst hdv
  intro g s R p loose mean mg mb X Tp G ND k
  revert X; k_fill; intro X
  refine' enter (binds := [(Str.ofString "self", .ref x)]) X Tp G ?k6 ?k7 ?k8 ?k9 ?kB ?_ ?c2 ?c3 ?c4 ?c5
  case k6 => k_is
  case k7 => k_is
  case k8 => decide
  case k9 => exact BindsTo.of_eq rfl
  case c5 => decide
  case kB => exact locs rfl
  case c2 => exact rfl
  case c3 => exact rfl
  case c4 => exact rfl
  intro L' h' F' N'
  try dsimp only
  try dsimp only [wsT, List.cons_append, List.nil_append] at N' ND
  try k_fold
  try dsimp only [hdT] at N' ND
  walk_at "m go"
  try dsimp only
  refine' lve_take (T := hdT w ⟨x, dx, pb, fp, ln, vs, n + 1, k1, k2, k3, k4, k5, k6⟩) ‹_› ‹_› (by k_dflt assumption) ?tk ?_
  case tk => (try dsimp only [hdT]); walk_at "m take"
  intro G' ND'
  exact k _ _ _ _ ⟨rfl, rfl⟩ G' ND'
end
section
theorem lexperm (a1 a2 a3 D f2 c2 f1 c1 sl cl t : Addr × Obj) : TakeAll [a1, a2, a3, D, f2, c2, f1, c1, sl, cl, t] ([a1, a2, a3] ++ [f1, D, f2, cl, sl] ++ [t, c1, c2]) [] := by
  walk_at "m take"
theorem sp_lexer {w : World} (l : List Nat) (t0 : Tok) (hl : ∀ c ∈ l, c < 128) (hlen : l.length ≤ 1000) : Spec w 880 185 [.str (Tx l) t0] ([(180, tabObj #[])]) (fun v T' => ∃ (d : Hd) (e : St) (tb : Tb), v = .ref d.x ∧ T' = hdT w d ++ stT e ++ tbT tb ∧ d.fp = e.f1 ∧ d.ln = 1 ∧ d.vs = [] ∧ TbOk tb ∧ StOk w e tb l) := by
  intro g s R p loose mean mg mb X Tp G ND k
  revert X; k_fill; intro X
  refine' enterC (binds := [(Str.ofString "text", .str (Tx l) t0)]) (cl := fun L' => [(Str.ofString "signs", L' + 1)]) X Tp G ND ?k6 ?k7 ?k8 ?k9 ?kB ?kD ?kL ?_ ?c2 ?c3 ?c4
  case k6 => k_is
  case k7 => k_is
  case k8 => decide
  case k9 => exact BindsTo.of_eq rfl
  case kB => exact rfl
  case kD => decide +kernel
  case kL => exact fun _ => rfl
  case c2 => exact rfl
  case c3 => exact rfl
  case c4 => exact rfl
  clear ND
  intro L' h' tk' F' o' d1' N' ND
  (try dsimp only [List.cons_append, List.nil_append] at N' ND)
  try dsimp only
  try k_fold
  have hCH : CodeHd g 184 180 := codeHd_of_K X (by kernel_rfl)
  walk_at "m go"
  rename Hd => dd
  rename (Obj.data _ = Data.cell (some (Value.ref _))) => hcell
  refine' lve_take (T := hdT w dd ++ stT ⟨_, _, _, _, _, _, L' + 1, _, _, _, _⟩ ++ tbT ⟨_, _, _, _⟩) ‹_› ‹_› (by k_dflt assumption) ?tk ?_
  case tk => exact lexperm _ _ _ _ _ _ _ _ _ _ _
  intro G' ND'
  refine k _ _ _ _ ⟨_, _, _, rfl, rfl, by assumption, by assumption, by assumption, ⟨_, _, by assumption, by assumption⟩, ⟨by assumption, by assumption, by assumption, ?_⟩⟩ G' ND'
  · intro sl1 n1 t1 hc1
    have hsl := hcell.symm.trans hc1
    injection hsl with hsl; injection hsl with hsl; injection hsl with hsl
    subst hsl
    clear hc1 k G' ND' G Tp X
    constructor
    · intro g s R p loose mean mg mb X Tp G ND k
      refine' enterE (binds := [(Str.ofString "size", .int 1 t1)]) Tp G ?ho ?hc ?hcd ?hq ?hr ?hb ?hl ?_ ?c1 ?c2 ?c3 ?c4
      case ho => k_mem
      case hc => k_mem
      case hcd => assumption
      case hq => assumption
      case hr => decide
      case hb => exact rfl
      case hl => exact locs rfl
      case c1 => rfl
      case c2 => rfl
      case c3 => rfl
      case c4 => decide
      intro L' h' F' N'
      walk_at "m go"
      try dsimp only
      refine' lve_k k ⟨strV of_nil, rfl⟩ ‹_› ‹_› (by k_dflt assumption) ?tk
      case tk => walk_at "m take"
    · intro y1 ys1 c1 cs1 hy0 hyc hy1
      intro g s R p loose mean mg mb X Tp G ND k
      refine' enterE (binds := [(Str.ofString "size", .int 1 t1)]) Tp G ?ho ?hc ?hcd ?hq ?hr ?hb ?hl ?_ ?c1 ?c2 ?c3 ?c4
      case ho => k_mem
      case hc => k_mem
      case hcd => assumption
      case hq => assumption
      case hr => decide
      case hb => exact rfl
      case hl => exact locs rfl
      case c1 => rfl
      case c2 => rfl
      case c3 => rfl
      case c4 => decide
      intro L' h' F' N'
      walk_at "m go"
      try dsimp only
      refine' lve_k k ⟨rfl, rfl⟩ ‹_› ‹_› (by k_dflt assumption) ?tk
      case tk => walk_at "m take"
end
section
theorem lexperm2 (a1 a2 a3 D f2 f1 sl cl t c1 c2 : Addr × Obj) : TakeAll [a1, a2, a3, D, f2, f1, sl, cl, t, c1, c2] ([a1, a2, a3] ++ [f1, D, f2, cl, sl] ++ [t, c1, c2]) [] := by
  walk_at "m take"
theorem sp_lexer2 {w : World} (l : List Nat) (t0 : Tok) (hl : ∀ c ∈ l, c < 128) (hlen : l.length ≤ 1000) (tb : Tb) (htb : TbOk tb) : Spec w 880 185 [.str (Tx l) t0] (tbT tb) (fun v T' => ∃ (d : Hd) (e : St), v = .ref d.x ∧ T' = hdT w d ++ stT e ++ tbT tb ∧ d.fp = e.f1 ∧ d.ln = 1 ∧ d.vs = [] ∧ StOk w e tb l) := by
  obtain ⟨c1, c2, o1, o2⟩ := tb
  intro g s R p loose mean mg mb X Tp G ND k
  revert X; k_fill; intro X
  refine' enterC (binds := [(Str.ofString "text", .str (Tx l) t0)]) (cl := fun L' => [(Str.ofString "signs", L' + 1)]) X Tp G ND ?k6 ?k7 ?k8 ?k9 ?kB ?kD ?kL ?_ ?c2 ?c3 ?c4
  case k6 => k_is
  case k7 => k_is
  case k8 => decide
  case k9 => exact BindsTo.of_eq rfl
  case kB => exact rfl
  case kD => decide +kernel
  case kL => exact fun _ => rfl
  case c2 => exact rfl
  case c3 => exact rfl
  case c4 => exact rfl
  clear ND
  intro L' h' tk' F' o' d1' N' ND
  (try dsimp only [List.cons_append, List.nil_append] at N' ND)
  try dsimp only
  try k_fold
  try dsimp only [tbT] at N' ND
  obtain ⟨vs8, t8, hc8, hd8⟩ := htb
  dsimp only at hc8
  have hCH : CodeHd g 184 180 := codeHd_of_K X (by kernel_rfl)
  walk_at "m go"
  rename Hd => dd
  rename (Obj.data _ = Data.cell (some (Value.ref _))) => hcell
  refine' lve_take (T := hdT w dd ++ stT ⟨_, _, _, _, _, _, L' + 1, _, _, _, _⟩ ++ tbT ⟨c1, c2, o1, o2⟩) ‹_› ‹_› (by k_dflt assumption) ?tk ?_
  case tk => exact lexperm2 _ _ _ _ _ _ _ _ _ _ _
  intro G' ND'
  refine k _ _ _ _ ⟨_, _, rfl, rfl, by assumption, by assumption, by assumption, ⟨by assumption, by assumption, by assumption, ?_⟩⟩ G' ND'
  · intro sl1 n1 t1 hc1
    have hsl := hcell.symm.trans hc1
    injection hsl with hsl; injection hsl with hsl; injection hsl with hsl
    subst hsl
    clear hc1 k G' ND' G Tp X
    constructor
    · intro g s R p loose mean mg mb X Tp G ND k
      refine' enterE (binds := [(Str.ofString "size", .int 1 t1)]) Tp G ?ho ?hc ?hcd ?hq ?hr ?hb ?hl ?_ ?c1 ?c2 ?c3 ?c4
      case ho => k_mem
      case hc => k_mem
      case hcd => assumption
      case hq => assumption
      case hr => decide
      case hb => exact rfl
      case hl => exact locs rfl
      case c1 => rfl
      case c2 => rfl
      case c3 => rfl
      case c4 => decide
      intro L' h' F' N'
      walk_at "m go"
      try dsimp only
      refine' lve_k k ⟨strV of_nil, rfl⟩ ‹_› ‹_› (by k_dflt assumption) ?tk
      case tk => walk_at "m take"
    · intro y1 ys1 c1 cs1 hy0 hyc hy1
      intro g s R p loose mean mg mb X Tp G ND k
      refine' enterE (binds := [(Str.ofString "size", .int 1 t1)]) Tp G ?ho ?hc ?hcd ?hq ?hr ?hb ?hl ?_ ?c1 ?c2 ?c3 ?c4
      case ho => k_mem
      case hc => k_mem
      case hcd => assumption
      case hq => assumption
      case hr => decide
      case hb => exact rfl
      case hl => exact locs rfl
      case c1 => rfl
      case c2 => rfl
      case c3 => rfl
      case c4 => decide
      intro L' h' F' N'
      walk_at "m go"
      try dsimp only
      refine' lve_k k ⟨rfl, rfl⟩ ‹_› ‹_› (by k_dflt assumption) ?tk
      case tk => walk_at "m take"
end
section
noncomputable section
namespace E_sp_flags_c
def P (w : World) (f : Nat) (t0 : Tok) (g : Heap) (s : Shared) (R : RsP) (p : Program) (loose : List Str) (mean : EoV) (mg mb : SoV) : Prop := (1 ≤ f) → (f < 16384) → SpecAt w 900 112 [.int (f : Int) t0] ([]) (fun v T' => StrV v (flagsL f) ∧ T' = []) g s R p loose mean mg mb
@[irreducible] def ζ := upick (by walk_at "m ne") ((ucat un8 (ucat un2 un1)) P)
@[irreducible] def w := ζ.1.1.1.1
@[irreducible] def f := ζ.1.1.1.2
@[irreducible] def g := ζ.1.1.2.2
@[irreducible] def s := ζ.1.2.1.1
theorem core : P w f ζ.1.1.2.1 g s ζ.1.2.1.2 ζ.1.2.2.1 ζ.1.2.2.2 ζ.2.1.1 ζ.2.1.2 ζ.2.2 := by
  intro h0 h1 X Tp G ND k
  revert X; k_fill; intro X
  refine' enterS (binds := [(Str.ofString "flags", .int (f : Int) ζ.1.1.2.1)]) X Tp G ?k6 ?k7 ?k8 ?k9 ?kB ?_ ?c2 ?c3 ?c4 ?c5
  case k6 => k_is
  case k7 => k_is
  case k8 => decide
  case k9 => exact BindsTo.of_eq rfl
  case c5 => decide
  case kB => exact locs rfl
  case c2 => exact rfl
  case c3 => exact rfl
  case c4 => exact rfl
  intro h' F' N'
  try dsimp only
  try dsimp only [wsT, List.cons_append, List.nil_append] at N' ND
  try k_fold
  walk_at "m go"
  walk_at "m for"
  walk_at "m go"
  refine' for_rangeT (L := s.heap.objs.size) (n := 32) (J := fun j V T => ∃ ln c us fl tf, V = [(Str.ofString "names", Value.ref ln), (Str.ofString "flags", Value.int fl tf)] ∧ T = [(ln, W.listOf us.toArray c)] ∧ fl = ((restF f j : Nat) : Int) ∧ restF f j ≠ 0 ∧ TxsAre us (namesF f j)) (V₀ := _) (by rfl) ‹_› ?hsm ?hn (by rfl) (by rfl) (by rfl) ‹_› ?lc ‹_› (by k_dflt assumption) ⟨_, _, [], _, _, rfl, rfl, by rw [restF_zero], by rw [restF_zero]; lia, .nil⟩ ?tk ?_ ?_
  case hsm => exact rg_small (by lia) (by lia) (by lia) (by lia)
  case hn => exact rg_size (by split <;> lia)
  case lc => walk_at "m loc"
  case tk => walk_at "m take"
  · intro i t m V T h₁ tk₁ I oI E' hi j F₁ N₁ nd₁
    obtain ⟨ln, c, us, fl, tf, rfl, rfl, hz, hl, hu⟩ := j
    have hi14 := restF_lt h1 hl
    rw [show (0 : Int) + ((i : Nat) : Int) * 1 = (i : Int) by lia] at F₁
    subst hz
    have hul : us.length ≤ i := by have := strs_len hu; have := names_len f i; simp at *; lia
    walk_at "m go"
    · have hb := bit_of ‹_›
      have hx := bit_xor hb
      simp only [List.push_toArray] at *
      refine' turn_next ‹_› ‹_› (by k_dflt assumption) _ _ ⟨_, _, _, _, _, rfl, rfl, hx, ?hz, ?hu⟩ ?l ?tk
      case l => walk_at "m loc"
      case tk => walk_at "m take"
      case hz => intro e; exact absurd (show Builtin.bitXor ((restF f i : Nat) : Int) (2 ^ i) = 0 by rw [hx, e]; rfl) ‹_›
      case hu => rw [names_yes hb]; exact txs_snoc hu
    · have hb := bit_of ‹_›
      have hx := bit_xor hb
      have hu2 : ∀ t8, TxsAre (us ++ [Value.str (Tx (nameL i)) t8]) (namesF f 14) := by
        intro t8
        have := names_end (f := f) (i := i + 1) (by have : Builtin.bitXor ((restF f i : Nat) : Int) (2 ^ i) = 0 := by assumption
                                                    rw [hx] at this; lia) (13 - i)
        rw [show i + 1 + (13 - i) = 14 by lia] at this
        rw [this, names_yes hb]; exact txs_snoc hu
      have hw := names_sum f 14 (by decide)
      simp only [List.push_toArray] at *
      dsimp only [TurnE]
      walk_at "m go"
      try dsimp only
      refine' lve_take (T := []) ‹_› ‹_› (by k_dflt assumption) ?tk ?_
      case tk => walk_at "m take"
      intro G' ND'
      exact k _ _ _ _ ⟨⟨_, rfl⟩, rfl⟩ G' ND'
    · have hb := bit_no ‹_›
      refine' turn_next ‹_› ‹_› (by k_dflt assumption) _ _ ⟨_, _, _, _, _, rfl, rfl, ?hx, ?hz, ?hu⟩ ?l ?tk
      case l => walk_at "m loc"
      case tk => walk_at "m take"
      case hx => rw [restF_bit (i := i), hb]; simp
      case hz => rw [restF_bit (i := i), hb] at hl; simpa using hl
      case hu => rw [names_no hb]; exact hu
  · intro m V T h₁ tk₁ E' j F₁ N₁ nd₁
    obtain ⟨ln, c, us, fl, tf, rfl, rfl, hz, hl, hu⟩ := j
    exact absurd (restF_lt h1 hl) (by decide)
end E_sp_flags_c
end
theorem sp_flags_c : ∀ {w f t0 g s R p loose mean mg mb}, E_sp_flags_c.P w f t0 g s R p loose mean mg mb := fun {w f t0 g s R p loose mean mg mb} => by with_unfolding_all exact pk (c := E_sp_flags_c.ζ) rfl E_sp_flags_c.core ((((w, f), (t0, g)), ((s, R), (p, loose))), ((mean, mg), mb))
theorem sp_flags {w : World} (f : Nat) (t0 : Tok) (h0 : 1 ≤ f) (h1 : f < 16384) : Spec w 900 112 [.int (f : Int) t0] ([]) (fun v T' => StrV v (flagsL f) ∧ T' = []) := by
  exact fun g s R p loose mean mg mb => @sp_flags_c w f t0 g s R p loose mean mg mb h0 h1
end
section
noncomputable section
namespace E_sp_rc0_c
def P (w : World) (x dx pb fp : Addr) (ln : Int) (vs : List Value) (n : Nat) (k1 k2 k3 k4 k5 k6 : Tok) (o1 : FuncData) (D : Addr) (oD : Obj) (f2 : Addr) (o2 : FuncData) (cl : Addr) (oc : Obj) (sl : Addr) (n1 : Nat) (c1 c2 : Addr) (p1 p2 : Obj) (g : Heap) (s : Shared) (R : RsP) (p : Program) (loose : List Str) (mean : EoV) (mg mb : SoV) : Prop := (oc.data = .cell (some (.ref sl))) → (ReadsFn w f2 cl c2 o2 oc p2) → (NsObj oD (fun y => if y = Str.ofString "read" then some (.ref f2) else none)) → SpecAt w 890 133 [.ref x] (hdT w ⟨x, dx, pb, fp, ln, vs, n, k1, k2, k3, k4, k5, k6⟩ ++ stT ⟨fp, o1, D, oD, f2, o2, cl, oc, sl, [], n1⟩ ++ [(c2, p2)]) (fun v T' => StrV v [] ∧ T' = hdT w ⟨x, dx, pb, fp, ln, vs, n, k1, k2, k3, k4, k5, k6⟩ ++ stT ⟨fp, o1, D, oD, f2, o2, cl, oc, sl, [], n1⟩ ++ [(c2, p2)]) g s R p loose mean mg mb
@[irreducible] def ζ := upick (by walk_at "m ne") ((ucat un32 (ucat un2 un1)) P)
@[irreducible] def w := ζ.1.1.1.1.1.1
@[irreducible] def g := ζ.1.2.2.1.2.2
@[irreducible] def s := ζ.1.2.2.2.1.1
theorem core : P w ζ.1.1.1.1.1.2 ζ.1.1.1.1.2.1 ζ.1.1.1.1.2.2 ζ.1.1.1.2.1.1 ζ.1.1.1.2.1.2 ζ.1.1.1.2.2.1 ζ.1.1.1.2.2.2 ζ.1.1.2.1.1.1 ζ.1.1.2.1.1.2 ζ.1.1.2.1.2.1 ζ.1.1.2.1.2.2 ζ.1.1.2.2.1.1 ζ.1.1.2.2.1.2 ζ.1.1.2.2.2.1 ζ.1.1.2.2.2.2 ζ.1.2.1.1.1.1 ζ.1.2.1.1.1.2 ζ.1.2.1.1.2.1 ζ.1.2.1.1.2.2 ζ.1.2.1.2.1.1 ζ.1.2.1.2.1.2 ζ.1.2.1.2.2.1 ζ.1.2.1.2.2.2 ζ.1.2.2.1.1.1 ζ.1.2.2.1.1.2 ζ.1.2.2.1.2.1 g s ζ.1.2.2.2.1.2 ζ.1.2.2.2.2.1 ζ.1.2.2.2.2.2 ζ.2.1.1 ζ.2.1.2 ζ.2.2 := by
  intro hcell hrd hns X Tp G ND k
  revert X; k_fill; intro X
  refine' enterS (binds := [(Str.ofString "self", .ref ζ.1.1.1.1.1.2)]) X Tp G ?k6 ?k7 ?k8 ?k9 ?kB ?_ ?c2 ?c3 ?c4 ?c5
  case k6 => k_is
  case k7 => k_is
  case k8 => decide
  case k9 => exact BindsTo.of_eq rfl
  case c5 => decide
  case kB => exact locs rfl
  case c2 => exact rfl
  case c3 => exact rfl
  case c4 => exact rfl
  intro h' F' N'
  try dsimp only
  try dsimp only [wsT, List.cons_append, List.nil_append] at N' ND
  try k_fold
  try dsimp only [hdT, stT, List.cons_append, List.nil_append] at N' ND
  have hCH : CodeHd g 184 180 := codeHd_of_K X (by kernel_rfl)
  have hrd0 := fun t => (hrd ζ.1.2.1.2.1.2 ζ.1.2.1.2.2.1 t hcell).1
  walk_at "m go"
  try dsimp only
  refine' lve_k k ⟨⟨_, rfl⟩, rfl⟩ ‹_› ‹_› (by k_dflt assumption) ?tk
  case tk => (try dsimp only [hdT, stT, List.cons_append, List.nil_append]); walk_at "m take"
end E_sp_rc0_c
end
theorem sp_rc0_c : ∀ {w x dx pb fp ln vs n k1 k2 k3 k4 k5 k6 o1 D oD f2 o2 cl oc sl n1 c1 c2 p1 p2 g s R p loose mean mg mb}, E_sp_rc0_c.P w x dx pb fp ln vs n k1 k2 k3 k4 k5 k6 o1 D oD f2 o2 cl oc sl n1 c1 c2 p1 p2 g s R p loose mean mg mb := fun {w x dx pb fp ln vs n k1 k2 k3 k4 k5 k6 o1 D oD f2 o2 cl oc sl n1 c1 c2 p1 p2 g s R p loose mean mg mb} => by with_unfolding_all exact pk (c := E_sp_rc0_c.ζ) rfl E_sp_rc0_c.core ((((((w, x), (dx, pb)), ((fp, ln), (vs, n))), (((k1, k2), (k3, k4)), ((k5, k6), (o1, D)))), ((((oD, f2), (o2, cl)), ((oc, sl), (n1, c1))), (((c2, p1), (p2, g)), ((s, R), (p, loose))))), ((mean, mg), mb))
theorem sp_rc0 {w : World} (d : Hd) (e : St) (tb : Tb) (hfp : d.fp = e.f1) (so : StOk w e tb []) : Spec w 890 133 [.ref d.x] (hdT w d ++ stT e ++ [(tb.c2, tb.o2)]) (fun v T' => StrV v [] ∧ T' = hdT w d ++ stT e ++ [(tb.c2, tb.o2)]) := by
  obtain ⟨x, dx, pb, fp, ln, vs, n, k1, k2, k3, k4, k5, k6⟩ := d
  obtain ⟨f1, o1, D, oD, f2, o2, cl, oc, sl, ys, n1⟩ := e
  obtain ⟨c1, c2, p1, p2⟩ := tb
  obtain ⟨hns, hcell, hys, hrd⟩ := so
  dsimp only at hns hcell hys hrd hfp
  subst hfp
  cases hys
  exact fun g s R p loose mean mg mb => @sp_rc0_c w x dx pb fp ln vs n k1 k2 k3 k4 k5 k6 o1 D oD f2 o2 cl oc sl n1 c1 c2 p1 p2 g s R p loose mean mg mb hcell hrd hns
noncomputable section
namespace E_sp_rc1_c
def P (w : World) (x dx pb fp : Addr) (ln : Int) (vs : List Value) (n : Nat) (k1 k2 k3 k4 k5 k6 : Tok) (o1 : FuncData) (D : Addr) (oD : Obj) (f2 : Addr) (o2 : FuncData) (cl : Addr) (oc : Obj) (sl : Addr) (n1 : Nat) (c1 c2 : Addr) (p1 p2 : Obj) (c : Nat) (cs : List Nat) (ty : Tok) (ys : List Value) (g : Heap) (s : Shared) (R : RsP) (p : Program) (loose : List Str) (mean : EoV) (mg mb : SoV) : Prop := (∀ b ∈ c :: cs, b < 128) → (cs.length ≤ 1000) → (ln < 100000) → (0 ≤ ln) → (oc.data = .cell (some (.ref sl))) → (TxsAre (.str (Tx [c]) ty :: ys) ((c :: cs).map fun c => [c])) → (ReadsFn w f2 cl c2 o2 oc p2) → (NsObj oD (fun y => if y = Str.ofString "read" then some (.ref f2) else none)) → SpecAt w 890 133 [.ref x] (hdT w ⟨x, dx, pb, fp, ln, vs, n, k1, k2, k3, k4, k5, k6⟩ ++ stT ⟨fp, o1, D, oD, f2, o2, cl, oc, sl, (.str (Tx [c]) ty :: ys), n1⟩ ++ [(c2, p2)]) (fun v T' => v = .str (Tx [c]) ty ∧ ∃ k2, T' = hdT w ⟨x, dx, pb, fp, (if c = 10 then ln + 1 else ln), vs, n, k1, k2, k3, k4, k5, k6⟩ ++ stT ⟨fp, o1, D, oD, f2, o2, cl, oc, sl, ys, (n1 + 1)⟩ ++ [(c2, p2)]) g s R p loose mean mg mb
@[irreducible] def ζ := upick (by walk_at "m ne") ((ucat un32 (ucat un4 (ucat un2 un1))) P)
@[irreducible] def w := ζ.1.1.1.1.1.1
@[irreducible] def g := ζ.1.2.2.2.2.2
@[irreducible] def s := ζ.2.1.1.1
theorem core : P w ζ.1.1.1.1.1.2 ζ.1.1.1.1.2.1 ζ.1.1.1.1.2.2 ζ.1.1.1.2.1.1 ζ.1.1.1.2.1.2 ζ.1.1.1.2.2.1 ζ.1.1.1.2.2.2 ζ.1.1.2.1.1.1 ζ.1.1.2.1.1.2 ζ.1.1.2.1.2.1 ζ.1.1.2.1.2.2 ζ.1.1.2.2.1.1 ζ.1.1.2.2.1.2 ζ.1.1.2.2.2.1 ζ.1.1.2.2.2.2 ζ.1.2.1.1.1.1 ζ.1.2.1.1.1.2 ζ.1.2.1.1.2.1 ζ.1.2.1.1.2.2 ζ.1.2.1.2.1.1 ζ.1.2.1.2.1.2 ζ.1.2.1.2.2.1 ζ.1.2.1.2.2.2 ζ.1.2.2.1.1.1 ζ.1.2.2.1.1.2 ζ.1.2.2.1.2.1 ζ.1.2.2.1.2.2 ζ.1.2.2.2.1.1 ζ.1.2.2.2.1.2 ζ.1.2.2.2.2.1 g s ζ.2.1.1.2 ζ.2.1.2.1 ζ.2.1.2.2 ζ.2.2.1.1 ζ.2.2.1.2 ζ.2.2.2 := by
  intro hl hn hln hln0 hcell hys hrd hns X Tp G ND k
  revert X; k_fill; intro X
  refine' enterS (binds := [(Str.ofString "self", .ref ζ.1.1.1.1.1.2)]) X Tp G ?k6 ?k7 ?k8 ?k9 ?kB ?_ ?c2 ?c3 ?c4 ?c5
  case k6 => k_is
  case k7 => k_is
  case k8 => decide
  case k9 => exact BindsTo.of_eq rfl
  case c5 => decide
  case kB => exact locs rfl
  case c2 => exact rfl
  case c3 => exact rfl
  case c4 => exact rfl
  intro h' F' N'
  try dsimp only
  try dsimp only [wsT, List.cons_append, List.nil_append] at N' ND
  try k_fold
  try dsimp only [hdT, stT, List.cons_append, List.nil_append] at N' ND
  have hCH : CodeHd g 184 180 := codeHd_of_K X (by kernel_rfl)
  have hyl : ζ.1.2.2.2.2.1.length ≤ 1000 := by have := strs_len hys; simp at this; lia
  have hrd0 := fun t => (hrd ζ.1.2.1.2.1.2 ζ.1.2.1.2.2.1 t hcell).2 (.str (Tx [ζ.1.2.2.1.2.2]) ζ.1.2.2.2.1.2) ζ.1.2.2.2.2.1 ζ.1.2.2.1.2.2 ζ.1.2.2.2.1.1 hys (by intro l hl' d hd; obtain ⟨b, hb, rfl⟩ := List.mem_map.mp hl'; have := List.mem_singleton.mp hd; subst this; exact hl _ hb) hyl
  walk_at "m go"
  · have he := is_nl ‹_›
    try dsimp only
    refine' lve_k k ⟨rfl, _, by rw [if_pos he]⟩ ‹_› ‹_› (by k_dflt assumption) ?tk
    case tk => (try dsimp only [hdT, stT, List.cons_append, List.nil_append]); walk_at "m take"
  · have hne := not_nl ‹_›
    try dsimp only
    refine' lve_k k ⟨rfl, _, by rw [if_neg hne]⟩ ‹_› ‹_› (by k_dflt assumption) ?tk
    case tk => (try dsimp only [hdT, stT, List.cons_append, List.nil_append]); walk_at "m take"
end E_sp_rc1_c
end
theorem sp_rc1_c : ∀ {w x dx pb fp ln vs n k1 k2 k3 k4 k5 k6 o1 D oD f2 o2 cl oc sl n1 c1 c2 p1 p2 c cs ty ys g s R p loose mean mg mb}, E_sp_rc1_c.P w x dx pb fp ln vs n k1 k2 k3 k4 k5 k6 o1 D oD f2 o2 cl oc sl n1 c1 c2 p1 p2 c cs ty ys g s R p loose mean mg mb := fun {w x dx pb fp ln vs n k1 k2 k3 k4 k5 k6 o1 D oD f2 o2 cl oc sl n1 c1 c2 p1 p2 c cs ty ys g s R p loose mean mg mb} => by with_unfolding_all exact pk (c := E_sp_rc1_c.ζ) rfl E_sp_rc1_c.core ((((((w, x), (dx, pb)), ((fp, ln), (vs, n))), (((k1, k2), (k3, k4)), ((k5, k6), (o1, D)))), ((((oD, f2), (o2, cl)), ((oc, sl), (n1, c1))), (((c2, p1), (p2, c)), ((cs, ty), (ys, g))))), (((s, R), (p, loose)), ((mean, mg), mb)))
theorem sp_rc1 {w : World} (d : Hd) (e : St) (tb : Tb) (hfp : d.fp = e.f1) (c : Nat) (cs : List Nat) (y : Value) (ys : List Value) (hl : ∀ b ∈ c :: cs, b < 128) (hn : cs.length ≤ 1000) (hln : d.ln < 100000) (hln0 : 0 ≤ d.ln) (hye : e.ys = y :: ys) (so : StOk w e tb (c :: cs)) : Spec w 890 133 [.ref d.x] (hdT w d ++ stT e ++ [(tb.c2, tb.o2)]) (fun v T' => v = y ∧ ∃ k2, T' = hdT w { d with ln := if c = 10 then d.ln + 1 else d.ln, k2 := k2 } ++ stT { e with ys := ys, n := e.n + 1 } ++ [(tb.c2, tb.o2)]) := by
  obtain ⟨x, dx, pb, fp, ln, vs, n, k1, k2, k3, k4, k5, k6⟩ := d
  obtain ⟨f1, o1, D, oD, f2, o2, cl, oc, sl, zs, n1⟩ := e
  obtain ⟨c1, c2, p1, p2⟩ := tb
  obtain ⟨hns, hcell, hys, hrd⟩ := so
  dsimp only at hns hcell hys hrd hfp hye hln hln0
  subst hfp hye
  obtain ⟨ty, rfl⟩ : ∃ t, y = .str (Tx [c]) t := by cases hys; exact ⟨_, rfl⟩
  exact fun g s R p loose mean mg mb => @sp_rc1_c w x dx pb fp ln vs n k1 k2 k3 k4 k5 k6 o1 D oD f2 o2 cl oc sl n1 c1 c2 p1 p2 c cs ty ys g s R p loose mean mg mb hl hn hln hln0 hcell hys hrd hns
end
section
noncomputable abbrev Hd.up (d : Hd) (ln : Int) (k2 : Tok) : Hd := ⟨d.x, d.dx, d.pb, d.fp, ln, d.vs, d.n, d.k1, k2, d.k3, d.k4, d.k5, d.k6⟩
noncomputable abbrev St.up (e : St) (ys : List Value) (n : Nat) : St := ⟨e.f1, e.o1, e.D, e.oD, e.f2, e.o2, e.cl, e.oc, e.sl, ys, n⟩
noncomputable def gtB : List Stmt := inS 2 (inS 8 progB)
noncomputable def gtSc : Scope := defScope 2 (inS 8 progB)
noncomputable abbrev gtEnv (L : Addr) : Env := envOf (Str.ofString "_netrclex.get_token") gtSc L 140 (.ref 139)
noncomputable abbrev gtV (d : Hd) (I : Addr) (tx : Str) (t1 : Tok) : List (Str × Value) := [(Str.ofString "self", Value.ref d.x), (Str.ofString "token", .str tx t1), (Str.ofString "fiter", .ref I)]
noncomputable abbrev gtT (w : World) (d : Hd) (e : St) (tb : Tb) (I q : Addr) (t : Tok) : List (Addr × Obj) := hdT w d ++ stT e ++ [(tb.c2, tb.o2), (I, itOn q t), (q, methodObj (.ref 133) (.ref d.x))]
noncomputable def GtP (w : World) (d : Hd) (e : St) (tb : Tb) (ln : Int) (tok rest : List Nat) (v : Value) (T : List (Addr × Obj)) : Prop :=
  ∃ k2 ys n1, StrV v tok ∧ T = hdT w (d.up ln k2) ++ stT (e.up ys n1) ++ [(tb.c2, tb.o2)] ∧ StOk w (e.up ys n1) tb rest
noncomputable def GtN (w : World) (g : Heap) (s : Shared) (L : Addr) (R : Flow → Shared → Prop) (fl : Flow) (d : Hd) (e : St) (tb : Tb) (I q : Addr) (tx : Str) (cs : List Nat) : Prop :=
  ∀ h tk m t t1 k2 ys n, StOk w (e.up ys n) tb cs → Fr g L h m → Loc m (gtV d I tx t1) → News g L h (gtT w (d.up d.ln k2) (e.up ys n) tb I q t) → Apart ((gtT w (d.up d.ln k2) (e.up ys n) tb I q t).map (·.1)) → R fl { s with heap := h, toks := tk }
theorem GtN.fin {w : World} {g : Heap} {s : Shared} {L : Addr} {R : Flow → Shared → Prop} {fl : Flow} {d : Hd} {e : St} {tb : Tb} {I q : Addr} {tx : Str} {cs : List Nat} (hN : GtN w g s L R fl d e tb I q tx cs) {h : Heap} {tk : Tok} {m : Str → Option Value} {t t1 k2 : Tok} {ys : List Value} {n : Nat} {led rest : List (Addr × Obj)}
    (F : Fr g L h m) (N : News g L h led) (nd : Apart (led.map (·.1))) (so : StOk w (e.up ys n) tb cs) (l : Loc m (gtV d I tx t1)) (tks : TakeAll led (gtT w (d.up d.ln k2) (e.up ys n) tb I q t) rest) : R fl { s with heap := h, toks := tk } :=
  hN h tk m t t1 k2 ys n so F l (take2 N nd tks).1 (take2 N nd tks).2
theorem for_itR {prog : Program} {w : World} {A : Around} {g : Heap} {L I : Addr} {env : Env} {x : Str} {px : Pos} {body orelse : List Stmt} {s : Shared} {E : Value → Shared → Prop} {q : Addr} {t : Tok} {Q : Flow → Shared → Prop} {m₀ : Str → Option Value} {led rest T₀ : List (Addr × Obj)} (J : Nat → List (Str × Value) → List (Addr × Obj) → Prop) (n : Nat) (V₀ : List (Str × Value))
    (hI : (I, itOn q t) ∈ led) (F : Fr g L s.heap m₀) (l : Loc m₀ V₀) (N' : News g L s.heap led) (nd' : Apart (led.map (·.1))) (hJ : J n V₀ T₀) (tks : TakeAll led T₀ rest)
    (turn : ∀ k m V T h tk (E' : Value → Shared → Prop) (R : Flow → Shared → Prop), (∀ f s', TurnO g L J k { s with heap := h, toks := tk } Q f s' → R f s') → J k V T → Fr g L h (over V m) → News g L h T → Apart (T.map (·.1)) →
      wpAny (model prog w) A (pyNext (.ref I)) (ItTurn prog w A env x body orelse Q R) E' { s with heap := h, toks := tk }) :
    wpAny (model prog w) A (pyIter (.ref I)) (fun it s₂ => codeAny (model prog w) A (.forLoop (.Name x px) it body orelse env) (fun r s' => match r with | .ok f => Q f s' | .error e => cameBackBy (model prog w) A env E e s') s₂) E s :=
  for_it J n V₀ hI F l N' nd' hJ tks fun k m V T h tk E' j F N nd => turn k m V T h tk E' _ (fun _ _ z => z) j F N nd
noncomputable section
namespace E_gt_in1
def P (w : World) (g : Heap) (s : Shared) (p : Program) (loose : List Str) (mean : EoV) (mg mb : SoV) (L' : Addr) (Q : FsP) (E : VsP) (m : SoV) (Rr : FsP) (d : Hd) (e : St) (tb : Tb) (I q : Addr) (t t1 : Tok) (c : Nat) (cs dn : List Nat) (tx : Str) : Prop := (d.fp = e.f1) → (d.ln < 50000) → (0 ≤ d.ln) → (StOk w e tb (c :: cs)) → (∀ y_ ∈ c :: cs, y_ < 128) → ((cs).length ≤ 1000) → (isW c = false ∧ c ≠ 92) → (dn.length ≤ 1000) → (tx = Tx dn) → ((hd.heap_39 w.params).In g) → (Top p loose mean mg mb g) → (Fr g L' s.heap (over (gtV d I (tx) t1) m)) → (News g L' s.heap (gtT w d e tb I q t)) → (Apart ((gtT w d e tb I q t).map (·.1))) → (GtN w g s L' Rr .next d e tb I q (Tx (dn ++ [c])) cs) → wpAny (model Challenge.rw_uc0019_01.row.prog w) ((Lv 870).deeper (gtEnv L')) (pyNext (.ref I)) (ItTurn Challenge.rw_uc0019_01.row.prog w ((Lv 870).deeper (gtEnv L')) (gtEnv L') (Str.ofString "ch") (inS 2 (elS 1 (inS 3 gtB))) [] Q Rr) E s
@[irreducible] def ζ := upick (by walk_at "m ne") ((ucat un16 un8) P)
@[irreducible] def w := ζ.1.1.1.1.1
@[irreducible] def g := ζ.1.1.1.1.2
@[irreducible] def s := ζ.1.1.1.2.1
@[irreducible] def L' := ζ.1.2.1.1.1
@[irreducible] def Q := ζ.1.2.1.1.2
@[irreducible] def E := ζ.1.2.1.2.1
@[irreducible] def m := ζ.1.2.1.2.2
@[irreducible] def Rr := ζ.1.2.2.1.1
@[irreducible] def d := ζ.1.2.2.1.2
@[irreducible] def e := ζ.1.2.2.2.1
@[irreducible] def tb := ζ.1.2.2.2.2
@[irreducible] def I := ζ.2.1.1.1
@[irreducible] def q := ζ.2.1.1.2
theorem core : P w g s ζ.1.1.1.2.2 ζ.1.1.2.1.1 ζ.1.1.2.1.2 ζ.1.1.2.2.1 ζ.1.1.2.2.2 L' Q E m Rr d e tb I q ζ.2.1.2.1 ζ.2.1.2.2 ζ.2.2.1.1 ζ.2.2.1.2 ζ.2.2.2.1 ζ.2.2.2.2 := by
  intro hfp hln hln0 so hA hlen he hdl htx X Tp F N ND hN
  revert X; k_fill; intro X
  show wpAny _ _ (pyNext _) _ _ _
  dsimp only [gtT, gtV, hdT, stT, Hd.up, St.up, List.cons_append, List.nil_append] at F N ND
  obtain ⟨ty, ys2, hye, so2⟩ := st_cons so
  refine' next_spec (d := 890) (sp_rc1 d e tb hfp (ζ.2.2.1.1) (ζ.2.2.1.2) _ _ hA hlen (by lia) hln0 hye so) F ?X1 ?Tp1 N ?nd1 ?tk1 ?hA1 ?mI1 ?mq1 ?hh1 ?hf1 ?hs1 ?h1 ?hz1
  case X1 => k_asm
  case Tp1 => k_asm
  case nd1 => k_dflt assumption
  case tk1 => (try dsimp only [gtT, hdT, stT, Hd.up, St.up, List.cons_append, List.nil_append]); walk_at "m take"
  case hA1 => exact ale_lv (by rfl) (Nat.le_of_ble_eq_true rfl) (Nat.le_of_ble_eq_true rfl)
  case mI1 => k_mem
  case mq1 => k_mem
  case hh1 => rfl
  case hf1 => k_is
  case hs1 => intro v9 T9 hp9; obtain ⟨rfl, _⟩ := hp9; exact ⟨_, _, rfl⟩
  case hz1 => intro u9 T9 h9 tk9 hp9; exact (tx1_ne hp9.1.symm).elim
  intro v9 T9 h9 tk9 hp9 _ F9 N9 nd9 E9
  obtain ⟨rfl, k9, rfl⟩ := hp9
  have hwc := he.1
  have hc8 := hA ζ.2.2.1.1 List.mem_cons_self
  have q92 : decide (ζ.2.2.1.1 = 92) = false := by simpa using he.2
  (try dsimp only [gtT, gtV, hdT, stT, Hd.up, St.up, List.cons_append, List.nil_append] at N9 nd9)
  rw [if_neg (isW_ten he.1)] at N9 nd9
  clear N ND
  walk_at "m go"
  try dsimp only
  refine' GtN.fin hN ‹_› ‹_› (by k_dflt assumption) (so2 _) ?l ?tk
  case l => walk_at "m loc"
  case tk => (try dsimp only [gtT, hdT, stT, Hd.up, St.up, List.cons_append, List.nil_append]); walk_at "m take"
end E_gt_in1
end
theorem gt_in1 : ∀ {w g s p loose mean mg mb L' Q E m Rr d e tb I q t t1 c cs dn tx}, E_gt_in1.P w g s p loose mean mg mb L' Q E m Rr d e tb I q t t1 c cs dn tx := fun {w g s p loose mean mg mb L' Q E m Rr d e tb I q t t1 c cs dn tx} => by with_unfolding_all exact pk (c := E_gt_in1.ζ) rfl E_gt_in1.core (((((w, g), (s, p)), ((loose, mean), (mg, mb))), (((L', Q), (E, m)), ((Rr, d), (e, tb)))), (((I, q), (t, t1)), ((c, cs), (dn, tx))))
noncomputable section
namespace E_gt_in0
def P (w : World) (g : Heap) (s : Shared) (p : Program) (loose : List Str) (mean : EoV) (mg mb : SoV) (L' : Addr) (Q : FsP) (E : VsP) (m : SoV) (R : RsP) (Rr : FsP) (d : Hd) (e : St) (tb : Tb) (I q : Addr) (t t1 : Tok) (cs dn : List Nat) (tx : Str) : Prop := (d.fp = e.f1) → (d.ln < 50000) → (0 ≤ d.ln) → (StOk w e tb (13 :: cs)) → (∀ y_ ∈ 13 :: cs, y_ < 128) → ((cs).length ≤ 1000) → (tx = Tx dn) → ((hd.heap_39 w.params).In g) → (Top p loose mean mg mb g) → (Fr g L' s.heap (over (gtV d I (tx) t1) m)) → (News g L' s.heap (gtT w d e tb I q t)) → (Apart ((gtT w d e tb I q t).map (·.1))) → (∀ v s', Lve g R v s' → Rr (.ret v) s') → (∀ v T' h' tk, GtP w d e tb (d.ln) (dn) (cs) v T' → Gr g h' T' → Apart (T'.map (·.1)) → R (.ok (.ret v)) { s with heap := h', toks := tk }) → wpAny (model Challenge.rw_uc0019_01.row.prog w) ((Lv 870).deeper (gtEnv L')) (pyNext (.ref I)) (ItTurn Challenge.rw_uc0019_01.row.prog w ((Lv 870).deeper (gtEnv L')) (gtEnv L') (Str.ofString "ch") (inS 2 (elS 1 (inS 3 gtB))) [] Q Rr) E s
@[irreducible] def ζ := upick (by walk_at "m ne") ((ucat un16 un8) P)
@[irreducible] def w := ζ.1.1.1.1.1
@[irreducible] def g := ζ.1.1.1.1.2
@[irreducible] def s := ζ.1.1.1.2.1
@[irreducible] def L' := ζ.1.2.1.1.1
@[irreducible] def Q := ζ.1.2.1.1.2
@[irreducible] def E := ζ.1.2.1.2.1
@[irreducible] def m := ζ.1.2.1.2.2
@[irreducible] def Rr := ζ.1.2.2.1.2
@[irreducible] def d := ζ.1.2.2.2.1
@[irreducible] def e := ζ.1.2.2.2.2
@[irreducible] def tb := ζ.2.1.1.1
@[irreducible] def I := ζ.2.1.1.2
@[irreducible] def q := ζ.2.1.2.1
theorem core : P w g s ζ.1.1.1.2.2 ζ.1.1.2.1.1 ζ.1.1.2.1.2 ζ.1.1.2.2.1 ζ.1.1.2.2.2 L' Q E m ζ.1.2.2.1.1 Rr d e tb I q ζ.2.1.2.2 ζ.2.2.1.1 ζ.2.2.1.2 ζ.2.2.2.1 ζ.2.2.2.2 := by
  intro hfp hln hln0 so hA hlen htx X Tp F N ND hR k
  revert X; k_fill; intro X
  show wpAny _ _ (pyNext _) _ _ _
  dsimp only [gtT, gtV, hdT, stT, Hd.up, St.up, List.cons_append, List.nil_append] at F N ND
  obtain ⟨ty, ys2, hye, so2⟩ := st_cons so
  refine' next_spec (d := 890) (sp_rc1 d e tb hfp (13) (ζ.2.2.1.2) _ _ hA hlen (by lia) hln0 hye so) F ?X1 ?Tp1 N ?nd1 ?tk1 ?hA1 ?mI1 ?mq1 ?hh1 ?hf1 ?hs1 ?h1 ?hz1
  case X1 => k_asm
  case Tp1 => k_asm
  case nd1 => k_dflt assumption
  case tk1 => (try dsimp only [gtT, hdT, stT, Hd.up, St.up, List.cons_append, List.nil_append]); walk_at "m take"
  case hA1 => exact ale_lv (by rfl) (Nat.le_of_ble_eq_true rfl) (Nat.le_of_ble_eq_true rfl)
  case mI1 => k_mem
  case mq1 => k_mem
  case hh1 => rfl
  case hf1 => k_is
  case hs1 => intro v9 T9 hp9; obtain ⟨rfl, _⟩ := hp9; exact ⟨_, _, rfl⟩
  case hz1 => intro u9 T9 h9 tk9 hp9; exact (tx1_ne hp9.1.symm).elim
  intro v9 T9 h9 tk9 hp9 _ F9 N9 nd9 E9
  obtain ⟨rfl, k9, rfl⟩ := hp9
  have hwc : isW 13 = true := rfl
  have hc8 : 13 < 128 := by decide
  (try dsimp only [gtT, gtV, hdT, stT, Hd.up, St.up, List.cons_append, List.nil_append] at N9 nd9)
  rw [if_neg (by decide)] at N9 nd9
  clear N ND
  walk_at "m go"
  try dsimp only
  refine hR _ _ ?_
  refine' lve_k k ⟨_, _, _, strV htx, rfl, so2 _⟩ ‹_› ‹_› (by k_dflt assumption) ?tk
  case tk => (try dsimp only [gtT, hdT, stT, Hd.up, St.up, List.cons_append, List.nil_append]); walk_at "m take"
end E_gt_in0
end
theorem gt_in0 : ∀ {w g s p loose mean mg mb L' Q E m R Rr d e tb I q t t1 cs dn tx}, E_gt_in0.P w g s p loose mean mg mb L' Q E m R Rr d e tb I q t t1 cs dn tx := fun {w g s p loose mean mg mb L' Q E m R Rr d e tb I q t t1 cs dn tx} => by with_unfolding_all exact pk (c := E_gt_in0.ζ) rfl E_gt_in0.core (((((w, g), (s, p)), ((loose, mean), (mg, mb))), (((L', Q), (E, m)), ((R, Rr), (d, e)))), (((tb, I), (q, t)), ((t1, cs), (dn, tx))))
noncomputable section
namespace E_gt_qu1
def P (w : World) (g : Heap) (s : Shared) (p : Program) (loose : List Str) (mean : EoV) (mg mb : SoV) (L' : Addr) (Q : FsP) (E : VsP) (m : SoV) (Rr : FsP) (d : Hd) (e : St) (tb : Tb) (I q : Addr) (t t1 : Tok) (c : Nat) (cs dn : List Nat) (tx : Str) : Prop := (d.fp = e.f1) → (d.ln < 50000) → (0 ≤ d.ln) → (StOk w e tb (c :: cs)) → (∀ y_ ∈ c :: cs, y_ < 128) → ((cs).length ≤ 1000) → (c ≠ 10 ∧ c ≠ 34 ∧ c ≠ 92) → (dn.length ≤ 1000) → (tx = Tx dn) → ((hd.heap_39 w.params).In g) → (Top p loose mean mg mb g) → (Fr g L' s.heap (over (gtV d I (tx) t1) m)) → (News g L' s.heap (gtT w d e tb I q t)) → (Apart ((gtT w d e tb I q t).map (·.1))) → (GtN w g s L' Rr .next d e tb I q (Tx (dn ++ [c])) cs) → wpAny (model Challenge.rw_uc0019_01.row.prog w) ((Lv 870).deeper (gtEnv L')) (pyNext (.ref I)) (ItTurn Challenge.rw_uc0019_01.row.prog w ((Lv 870).deeper (gtEnv L')) (gtEnv L') (Str.ofString "ch") (inS 0 (inS 1 (inS 3 gtB))) [] Q Rr) E s
@[irreducible] def ζ := upick (by walk_at "m ne") ((ucat un16 un8) P)
@[irreducible] def w := ζ.1.1.1.1.1
@[irreducible] def g := ζ.1.1.1.1.2
@[irreducible] def s := ζ.1.1.1.2.1
@[irreducible] def L' := ζ.1.2.1.1.1
@[irreducible] def Q := ζ.1.2.1.1.2
@[irreducible] def E := ζ.1.2.1.2.1
@[irreducible] def m := ζ.1.2.1.2.2
@[irreducible] def Rr := ζ.1.2.2.1.1
@[irreducible] def d := ζ.1.2.2.1.2
@[irreducible] def e := ζ.1.2.2.2.1
@[irreducible] def tb := ζ.1.2.2.2.2
@[irreducible] def I := ζ.2.1.1.1
@[irreducible] def q := ζ.2.1.1.2
theorem core : P w g s ζ.1.1.1.2.2 ζ.1.1.2.1.1 ζ.1.1.2.1.2 ζ.1.1.2.2.1 ζ.1.1.2.2.2 L' Q E m Rr d e tb I q ζ.2.1.2.1 ζ.2.1.2.2 ζ.2.2.1.1 ζ.2.2.1.2 ζ.2.2.2.1 ζ.2.2.2.2 := by
  intro hfp hln hln0 so hA hlen he hdl htx X Tp F N ND hN
  revert X; k_fill; intro X
  show wpAny _ _ (pyNext _) _ _ _
  dsimp only [gtT, gtV, hdT, stT, Hd.up, St.up, List.cons_append, List.nil_append] at F N ND
  obtain ⟨ty, ys2, hye, so2⟩ := st_cons so
  refine' next_spec (d := 890) (sp_rc1 d e tb hfp (ζ.2.2.1.1) (ζ.2.2.1.2) _ _ hA hlen (by lia) hln0 hye so) F ?X1 ?Tp1 N ?nd1 ?tk1 ?hA1 ?mI1 ?mq1 ?hh1 ?hf1 ?hs1 ?h1 ?hz1
  case X1 => k_asm
  case Tp1 => k_asm
  case nd1 => k_dflt assumption
  case tk1 => (try dsimp only [gtT, hdT, stT, Hd.up, St.up, List.cons_append, List.nil_append]); walk_at "m take"
  case hA1 => exact ale_lv (by rfl) (Nat.le_of_ble_eq_true rfl) (Nat.le_of_ble_eq_true rfl)
  case mI1 => k_mem
  case mq1 => k_mem
  case hh1 => rfl
  case hf1 => k_is
  case hs1 => intro v9 T9 hp9; obtain ⟨rfl, _⟩ := hp9; exact ⟨_, _, rfl⟩
  case hz1 => intro u9 T9 h9 tk9 hp9; exact (tx1_ne hp9.1.symm).elim
  intro v9 T9 h9 tk9 hp9 _ F9 N9 nd9 E9
  obtain ⟨rfl, k9, rfl⟩ := hp9
  have q34 : decide (ζ.2.2.1.1 = 34) = false := by simpa using he.2.1
  have q92 : decide (ζ.2.2.1.1 = 92) = false := by simpa using he.2.2
  (try dsimp only [gtT, gtV, hdT, stT, Hd.up, St.up, List.cons_append, List.nil_append] at N9 nd9)
  rw [if_neg he.1] at N9 nd9
  clear N ND
  walk_at "m go"
  try dsimp only
  refine' GtN.fin hN ‹_› ‹_› (by k_dflt assumption) (so2 _) ?l ?tk
  case l => walk_at "m loc"
  case tk => (try dsimp only [gtT, hdT, stT, Hd.up, St.up, List.cons_append, List.nil_append]); walk_at "m take"
end E_gt_qu1
end
theorem gt_qu1 : ∀ {w g s p loose mean mg mb L' Q E m Rr d e tb I q t t1 c cs dn tx}, E_gt_qu1.P w g s p loose mean mg mb L' Q E m Rr d e tb I q t t1 c cs dn tx := fun {w g s p loose mean mg mb L' Q E m Rr d e tb I q t t1 c cs dn tx} => by with_unfolding_all exact pk (c := E_gt_qu1.ζ) rfl E_gt_qu1.core (((((w, g), (s, p)), ((loose, mean), (mg, mb))), (((L', Q), (E, m)), ((Rr, d), (e, tb)))), (((I, q), (t, t1)), ((c, cs), (dn, tx))))
noncomputable section
namespace E_gt_qu0
def P (w : World) (g : Heap) (s : Shared) (p : Program) (loose : List Str) (mean : EoV) (mg mb : SoV) (L' : Addr) (Q : FsP) (E : VsP) (m : SoV) (R : RsP) (Rr : FsP) (d : Hd) (e : St) (tb : Tb) (I q : Addr) (t t1 : Tok) (cs dn : List Nat) (tx : Str) : Prop := (d.fp = e.f1) → (d.ln < 50000) → (0 ≤ d.ln) → (StOk w e tb (34 :: cs)) → (∀ y_ ∈ 34 :: cs, y_ < 128) → ((cs).length ≤ 1000) → (tx = Tx dn) → ((hd.heap_39 w.params).In g) → (Top p loose mean mg mb g) → (Fr g L' s.heap (over (gtV d I (tx) t1) m)) → (News g L' s.heap (gtT w d e tb I q t)) → (Apart ((gtT w d e tb I q t).map (·.1))) → (∀ v s', Lve g R v s' → Rr (.ret v) s') → (∀ v T' h' tk, GtP w d e tb (d.ln) (dn) (cs) v T' → Gr g h' T' → Apart (T'.map (·.1)) → R (.ok (.ret v)) { s with heap := h', toks := tk }) → wpAny (model Challenge.rw_uc0019_01.row.prog w) ((Lv 870).deeper (gtEnv L')) (pyNext (.ref I)) (ItTurn Challenge.rw_uc0019_01.row.prog w ((Lv 870).deeper (gtEnv L')) (gtEnv L') (Str.ofString "ch") (inS 0 (inS 1 (inS 3 gtB))) [] Q Rr) E s
@[irreducible] def ζ := upick (by walk_at "m ne") ((ucat un16 un8) P)
@[irreducible] def w := ζ.1.1.1.1.1
@[irreducible] def g := ζ.1.1.1.1.2
@[irreducible] def s := ζ.1.1.1.2.1
@[irreducible] def L' := ζ.1.2.1.1.1
@[irreducible] def Q := ζ.1.2.1.1.2
@[irreducible] def E := ζ.1.2.1.2.1
@[irreducible] def m := ζ.1.2.1.2.2
@[irreducible] def Rr := ζ.1.2.2.1.2
@[irreducible] def d := ζ.1.2.2.2.1
@[irreducible] def e := ζ.1.2.2.2.2
@[irreducible] def tb := ζ.2.1.1.1
@[irreducible] def I := ζ.2.1.1.2
@[irreducible] def q := ζ.2.1.2.1
theorem core : P w g s ζ.1.1.1.2.2 ζ.1.1.2.1.1 ζ.1.1.2.1.2 ζ.1.1.2.2.1 ζ.1.1.2.2.2 L' Q E m ζ.1.2.2.1.1 Rr d e tb I q ζ.2.1.2.2 ζ.2.2.1.1 ζ.2.2.1.2 ζ.2.2.2.1 ζ.2.2.2.2 := by
  intro hfp hln hln0 so hA hlen htx X Tp F N ND hR k
  revert X; k_fill; intro X
  show wpAny _ _ (pyNext _) _ _ _
  dsimp only [gtT, gtV, hdT, stT, Hd.up, St.up, List.cons_append, List.nil_append] at F N ND
  obtain ⟨ty, ys2, hye, so2⟩ := st_cons so
  refine' next_spec (d := 890) (sp_rc1 d e tb hfp (34) (ζ.2.2.1.2) _ _ hA hlen (by lia) hln0 hye so) F ?X1 ?Tp1 N ?nd1 ?tk1 ?hA1 ?mI1 ?mq1 ?hh1 ?hf1 ?hs1 ?h1 ?hz1
  case X1 => k_asm
  case Tp1 => k_asm
  case nd1 => k_dflt assumption
  case tk1 => (try dsimp only [gtT, hdT, stT, Hd.up, St.up, List.cons_append, List.nil_append]); walk_at "m take"
  case hA1 => exact ale_lv (by rfl) (Nat.le_of_ble_eq_true rfl) (Nat.le_of_ble_eq_true rfl)
  case mI1 => k_mem
  case mq1 => k_mem
  case hh1 => rfl
  case hf1 => k_is
  case hs1 => intro v9 T9 hp9; obtain ⟨rfl, _⟩ := hp9; exact ⟨_, _, rfl⟩
  case hz1 => intro u9 T9 h9 tk9 hp9; exact (tx1_ne hp9.1.symm).elim
  intro v9 T9 h9 tk9 hp9 _ F9 N9 nd9 E9
  obtain ⟨rfl, k9, rfl⟩ := hp9
  have q34 : decide (34 = 34) = true := rfl
  (try dsimp only [gtT, gtV, hdT, stT, Hd.up, St.up, List.cons_append, List.nil_append] at N9 nd9)
  rw [if_neg (by decide)] at N9 nd9
  clear N ND
  walk_at "m go"
  try dsimp only
  refine hR _ _ ?_
  refine' lve_k k ⟨_, _, _, strV htx, rfl, so2 _⟩ ‹_› ‹_› (by k_dflt assumption) ?tk
  case tk => (try dsimp only [gtT, hdT, stT, Hd.up, St.up, List.cons_append, List.nil_append]); walk_at "m take"
end E_gt_qu0
end
theorem gt_qu0 : ∀ {w g s p loose mean mg mb L' Q E m R Rr d e tb I q t t1 cs dn tx}, E_gt_qu0.P w g s p loose mean mg mb L' Q E m R Rr d e tb I q t t1 cs dn tx := fun {w g s p loose mean mg mb L' Q E m R Rr d e tb I q t t1 cs dn tx} => by with_unfolding_all exact pk (c := E_gt_qu0.ζ) rfl E_gt_qu0.core (((((w, g), (s, p)), ((loose, mean), (mg, mb))), (((L', Q), (E, m)), ((R, Rr), (d, e)))), (((tb, I), (q, t)), ((t1, cs), (dn, tx))))
noncomputable section
namespace E_gt_in
def P (w : World) (g : Heap) (s : Shared) (p : Program) (loose : List Str) (mean : EoV) (mg mb : SoV) (L' : Addr) (Q : FsP) (E : VsP) (m : SoV) (R : RsP) (d : Hd) (e : St) (tb : Tb) (I q : Addr) (t t1 : Tok) (b dn rest : List Nat) (tx : Str) : Prop := (d.fp = e.f1) → (d.ln < 50000) → (0 ≤ d.ln) → (∀ c ∈ b, isW c = false ∧ c ≠ 92) → (∀ c ∈ b ++ 13 :: rest, c < 128) → ((b ++ 13 :: rest).length ≤ 1000) → (StOk w e tb (b ++ 13 :: rest)) → (dn.length + b.length ≤ 1000) → (tx = Tx dn) → ((hd.heap_39 w.params).In g) → (Top p loose mean mg mb g) → (Fr g L' s.heap m) → (Loc m (gtV d I tx t1)) → (News g L' s.heap (gtT w d e tb I q t)) → (Apart ((gtT w d e tb I q t).map (·.1))) → (∀ v s', Lve g R v s' → Q (.ret v) s') → (∀ v T' h' tk, GtP w d e tb (d.ln) (dn ++ b) (rest) v T' → Gr g h' T' → Apart (T'.map (·.1)) → R (.ok (.ret v)) { s with heap := h', toks := tk }) → wpAny (model Challenge.rw_uc0019_01.row.prog w) ((Lv 870).deeper (gtEnv L')) (exec (nthS 2 (elS 1 (inS 3 gtB))) (gtEnv L')) Q E s
@[irreducible] def ζ := upick (by walk_at "m ne") ((ucat un16 un8) P)
@[irreducible] def w := ζ.1.1.1.1.1
@[irreducible] def g := ζ.1.1.1.1.2
@[irreducible] def s := ζ.1.1.1.2.1
@[irreducible] def L' := ζ.1.2.1.1.1
@[irreducible] def Q := ζ.1.2.1.1.2
@[irreducible] def E := ζ.1.2.1.2.1
@[irreducible] def m := ζ.1.2.1.2.2
@[irreducible] def d := ζ.1.2.2.1.2
@[irreducible] def e := ζ.1.2.2.2.1
@[irreducible] def tb := ζ.1.2.2.2.2
@[irreducible] def I := ζ.2.1.1.1
@[irreducible] def q := ζ.2.1.1.2
@[irreducible] def t := ζ.2.1.2.1
@[irreducible] def t1 := ζ.2.1.2.2
@[irreducible] def b := ζ.2.2.1.1
@[irreducible] def dn := ζ.2.2.1.2
@[irreducible] def rest := ζ.2.2.2.1
@[irreducible] def tx := ζ.2.2.2.2
theorem core : P w g s ζ.1.1.1.2.2 ζ.1.1.2.1.1 ζ.1.1.2.1.2 ζ.1.1.2.2.1 ζ.1.1.2.2.2 L' Q E m ζ.1.2.2.1.1 d e tb I q t t1 b dn rest tx := by
  intro hfp hln hln0 hb hA hlen so hdl htx X Tp F l N ND hR k
  revert X; k_fill; intro X
  replace F := fr_loc F l
  clear l
  dsimp only [gtV, gtT, hdT, stT, Hd.up, St.up, List.cons_append, List.nil_append] at F N ND
  show wpAny _ _ (exec (Stmt.For _ _ _ _ _) _) _ _ _
  walk_at "m for"
  walk_at "m go"
  refine' for_itR (L := L') (n := b.length + 1) (J := fun k V T => ∃ (t t1 k2 : Tok) (ys : List Value) (n : Nat) (dn' lf : List Nat) (tx : Str), V = gtV d I tx t1 ∧ T = gtT w (d.up d.ln k2) (e.up ys n) tb I q t ∧ k = lf.length + 1 ∧ b = dn' ++ lf ∧ StOk w (e.up ys n) tb (lf ++ 13 :: rest) ∧ tx = Tx (dn ++ dn')) (V₀ := _) ?hI F ?lc N ND ⟨t, t1, d.k2, e.ys, e.n, [], b, tx, rfl, rfl, rfl, rfl, so, by rw [List.append_nil]; exact htx⟩ ?tk ?_
  case hI => (try dsimp only [gtT, hdT, stT, Hd.up, St.up, List.cons_append, List.nil_append]); k_mem
  case lc => dsimp only [gtV]; walk_at "m loc"
  case tk => exact TakeAll.whole
  intro k' m V T h₁ tk₁ E' Rr hRr j F₁ N₁ nd₁
  obtain ⟨t', t1', k2, ys, n1, dn', lf, tx', rfl, rfl, rfl, hbd, so', htx'⟩ := j
  cases lf with
  | cons c lf2 =>
    rw [List.cons_append] at so'
    have he := hb c (by rw [hbd]; simp)
    refine gt_in1 (d := (d.up d.ln k2)) (e := (e.up ys n1)) hfp hln hln0 so' (fun x hx => hA x (by rw [hbd]; rcases List.mem_cons.mp hx with rfl | hx <;> simp [*])) (by rw [hbd] at hlen; simp at hlen ⊢; lia) he (dn := dn ++ dn') (by rw [hbd] at hdl; simp at hdl ⊢; lia) htx' X Tp F₁ N₁ nd₁ fun h tk m t t1 k2 ys n so F l N nd => hRr _ _ ⟨lf2.length + 1, h, tk, m, _, _, Nat.lt_succ_self _, rfl, F, l, N, nd, t, t1, k2, ys, n, dn' ++ [c], lf2, _, rfl, rfl, rfl, by rw [hbd]; simp, so, by rw [List.append_assoc]⟩
  | nil =>
    rw [List.nil_append] at so'
    rw [List.append_nil] at hbd
    subst hbd
    exact gt_in0 (d := (d.up d.ln k2)) (e := (e.up ys n1)) hfp hln hln0 so' (fun x hx => hA x (List.mem_append_right _ hx)) (by simp at hlen ⊢; lia) htx' X Tp F₁ N₁ nd₁ (fun v s' h => hRr _ _ (hR v s' h)) k
end E_gt_in
end
theorem gt_in : ∀ {w g s p loose mean mg mb L' Q E m R d e tb I q t t1 b dn rest tx}, E_gt_in.P w g s p loose mean mg mb L' Q E m R d e tb I q t t1 b dn rest tx := fun {w g s p loose mean mg mb L' Q E m R d e tb I q t t1 b dn rest tx} => by with_unfolding_all exact pk (c := E_gt_in.ζ) rfl E_gt_in.core (((((w, g), (s, p)), ((loose, mean), (mg, mb))), (((L', Q), (E, m)), ((R, d), (e, tb)))), (((I, q), (t, t1)), ((b, dn), (rest, tx))))
noncomputable section
namespace E_gt_qu
def P (w : World) (g : Heap) (s : Shared) (p : Program) (loose : List Str) (mean : EoV) (mg mb : SoV) (L' : Addr) (Q : FsP) (E : VsP) (m : SoV) (R : RsP) (d : Hd) (e : St) (tb : Tb) (I q : Addr) (t t1 : Tok) (b dn rest : List Nat) (tx : Str) : Prop := (d.fp = e.f1) → (d.ln < 50000) → (0 ≤ d.ln) → (∀ c ∈ b, c ≠ 10 ∧ c ≠ 34 ∧ c ≠ 92) → (∀ c ∈ b ++ 34 :: rest, c < 128) → ((b ++ 34 :: rest).length ≤ 1000) → (StOk w e tb (b ++ 34 :: rest)) → (dn.length + b.length ≤ 1000) → (tx = Tx dn) → ((hd.heap_39 w.params).In g) → (Top p loose mean mg mb g) → (Fr g L' s.heap m) → (Loc m (gtV d I tx t1)) → (News g L' s.heap (gtT w d e tb I q t)) → (Apart ((gtT w d e tb I q t).map (·.1))) → (∀ v s', Lve g R v s' → Q (.ret v) s') → (∀ v T' h' tk, GtP w d e tb (d.ln) (dn ++ b) (rest) v T' → Gr g h' T' → Apart (T'.map (·.1)) → R (.ok (.ret v)) { s with heap := h', toks := tk }) → wpAny (model Challenge.rw_uc0019_01.row.prog w) ((Lv 870).deeper (gtEnv L')) (exec (nthS 0 (inS 1 (inS 3 gtB))) (gtEnv L')) Q E s
@[irreducible] def ζ := upick (by walk_at "m ne") ((ucat un16 un8) P)
@[irreducible] def w := ζ.1.1.1.1.1
@[irreducible] def g := ζ.1.1.1.1.2
@[irreducible] def s := ζ.1.1.1.2.1
@[irreducible] def L' := ζ.1.2.1.1.1
@[irreducible] def Q := ζ.1.2.1.1.2
@[irreducible] def E := ζ.1.2.1.2.1
@[irreducible] def m := ζ.1.2.1.2.2
@[irreducible] def d := ζ.1.2.2.1.2
@[irreducible] def e := ζ.1.2.2.2.1
@[irreducible] def tb := ζ.1.2.2.2.2
@[irreducible] def I := ζ.2.1.1.1
@[irreducible] def q := ζ.2.1.1.2
@[irreducible] def t := ζ.2.1.2.1
@[irreducible] def t1 := ζ.2.1.2.2
@[irreducible] def b := ζ.2.2.1.1
@[irreducible] def dn := ζ.2.2.1.2
@[irreducible] def rest := ζ.2.2.2.1
@[irreducible] def tx := ζ.2.2.2.2
theorem core : P w g s ζ.1.1.1.2.2 ζ.1.1.2.1.1 ζ.1.1.2.1.2 ζ.1.1.2.2.1 ζ.1.1.2.2.2 L' Q E m ζ.1.2.2.1.1 d e tb I q t t1 b dn rest tx := by
  intro hfp hln hln0 hb hA hlen so hdl htx X Tp F l N ND hR k
  revert X; k_fill; intro X
  replace F := fr_loc F l
  clear l
  dsimp only [gtV, gtT, hdT, stT, Hd.up, St.up, List.cons_append, List.nil_append] at F N ND
  show wpAny _ _ (exec (Stmt.For _ _ _ _ _) _) _ _ _
  walk_at "m for"
  walk_at "m go"
  refine' for_itR (L := L') (n := b.length + 1) (J := fun k V T => ∃ (t t1 k2 : Tok) (ys : List Value) (n : Nat) (dn' lf : List Nat) (tx : Str), V = gtV d I tx t1 ∧ T = gtT w (d.up d.ln k2) (e.up ys n) tb I q t ∧ k = lf.length + 1 ∧ b = dn' ++ lf ∧ StOk w (e.up ys n) tb (lf ++ 34 :: rest) ∧ tx = Tx (dn ++ dn')) (V₀ := _) ?hI F ?lc N ND ⟨t, t1, d.k2, e.ys, e.n, [], b, tx, rfl, rfl, rfl, rfl, so, by rw [List.append_nil]; exact htx⟩ ?tk ?_
  case hI => (try dsimp only [gtT, hdT, stT, Hd.up, St.up, List.cons_append, List.nil_append]); k_mem
  case lc => dsimp only [gtV]; walk_at "m loc"
  case tk => exact TakeAll.whole
  intro k' m V T h₁ tk₁ E' Rr hRr j F₁ N₁ nd₁
  obtain ⟨t', t1', k2, ys, n1, dn', lf, tx', rfl, rfl, rfl, hbd, so', htx'⟩ := j
  cases lf with
  | cons c lf2 =>
    rw [List.cons_append] at so'
    have he := hb c (by rw [hbd]; simp)
    refine gt_qu1 (d := (d.up d.ln k2)) (e := (e.up ys n1)) hfp hln hln0 so' (fun x hx => hA x (by rw [hbd]; rcases List.mem_cons.mp hx with rfl | hx <;> simp [*])) (by rw [hbd] at hlen; simp at hlen ⊢; lia) he (dn := dn ++ dn') (by rw [hbd] at hdl; simp at hdl ⊢; lia) htx' X Tp F₁ N₁ nd₁ fun h tk m t t1 k2 ys n so F l N nd => hRr _ _ ⟨lf2.length + 1, h, tk, m, _, _, Nat.lt_succ_self _, rfl, F, l, N, nd, t, t1, k2, ys, n, dn' ++ [c], lf2, _, rfl, rfl, rfl, by rw [hbd]; simp, so, by rw [List.append_assoc]⟩
  | nil =>
    rw [List.nil_append] at so'
    rw [List.append_nil] at hbd
    subst hbd
    exact gt_qu0 (d := (d.up d.ln k2)) (e := (e.up ys n1)) hfp hln hln0 so' (fun x hx => hA x (List.mem_append_right _ hx)) (by simp at hlen ⊢; lia) htx' X Tp F₁ N₁ nd₁ (fun v s' h => hRr _ _ (hR v s' h)) k
end E_gt_qu
end
theorem gt_qu : ∀ {w g s p loose mean mg mb L' Q E m R d e tb I q t t1 b dn rest tx}, E_gt_qu.P w g s p loose mean mg mb L' Q E m R d e tb I q t t1 b dn rest tx := fun {w g s p loose mean mg mb L' Q E m R d e tb I q t t1 b dn rest tx} => by with_unfolding_all exact pk (c := E_gt_qu.ζ) rfl E_gt_qu.core (((((w, g), (s, p)), ((loose, mean), (mg, mb))), (((L', Q), (E, m)), ((R, d), (e, tb)))), (((I, q), (t, t1)), ((b, dn), (rest, tx))))
noncomputable section
namespace E_gt_ws
def P (w : World) (g : Heap) (s : Shared) (p : Program) (loose : List Str) (mean : EoV) (mg mb : SoV) (L' : Addr) (Q : FsP) (E : VsP) (m : SoV) (Rr : FsP) (d : Hd) (e : St) (tb : Tb) (I q : Addr) (t t1 : Tok) (c : Nat) (cs : List Nat) (tx : Str) : Prop := (d.fp = e.f1) → (d.ln < 50000) → (0 ≤ d.ln) → (StOk w e tb (c :: cs)) → (∀ y_ ∈ c :: cs, y_ < 128) → ((cs).length ≤ 1000) → (isW c = true) → ((hd.heap_39 w.params).In g) → (Top p loose mean mg mb g) → (Fr g L' s.heap (over (gtV d I (tx) t1) m)) → (News g L' s.heap (gtT w d e tb I q t)) → (Apart ((gtT w d e tb I q t).map (·.1))) → (GtN w g s L' Rr .cont (d.up (if c = 10 then d.ln + 1 else d.ln) d.k2) e tb I q tx cs) → wpAny (model Challenge.rw_uc0019_01.row.prog w) ((Lv 870).deeper (gtEnv L')) (pyNext (.ref I)) (ItTurn Challenge.rw_uc0019_01.row.prog w ((Lv 870).deeper (gtEnv L')) (gtEnv L') (Str.ofString "ch") (inS 3 gtB) [] Q Rr) E s
@[irreducible] def ζ := upick (by walk_at "m ne") ((ucat un16 (ucat un4 (ucat un2 un1))) P)
@[irreducible] def w := ζ.1.1.1.1.1
@[irreducible] def g := ζ.1.1.1.1.2
@[irreducible] def s := ζ.1.1.1.2.1
@[irreducible] def L' := ζ.1.2.1.1.1
@[irreducible] def Q := ζ.1.2.1.1.2
@[irreducible] def E := ζ.1.2.1.2.1
@[irreducible] def m := ζ.1.2.1.2.2
@[irreducible] def Rr := ζ.1.2.2.1.1
@[irreducible] def d := ζ.1.2.2.1.2
@[irreducible] def e := ζ.1.2.2.2.1
@[irreducible] def tb := ζ.1.2.2.2.2
@[irreducible] def I := ζ.2.1.1.1
@[irreducible] def q := ζ.2.1.1.2
theorem core : P w g s ζ.1.1.1.2.2 ζ.1.1.2.1.1 ζ.1.1.2.1.2 ζ.1.1.2.2.1 ζ.1.1.2.2.2 L' Q E m Rr d e tb I q ζ.2.1.2.1 ζ.2.1.2.2 ζ.2.2.1.1 ζ.2.2.1.2 ζ.2.2.2 := by
  intro hfp hln hln0 so hA hlen hwc X Tp F N ND hN
  revert X; k_fill; intro X
  show wpAny _ _ (pyNext _) _ _ _
  dsimp only [gtT, gtV, hdT, stT, Hd.up, St.up, List.cons_append, List.nil_append] at F N ND
  obtain ⟨ty, ys2, hye, so2⟩ := st_cons so
  refine' next_spec (d := 890) (sp_rc1 d e tb hfp (ζ.2.2.1.1) (ζ.2.2.1.2) _ _ hA hlen (by lia) hln0 hye so) F ?X1 ?Tp1 N ?nd1 ?tk1 ?hA1 ?mI1 ?mq1 ?hh1 ?hf1 ?hs1 ?h1 ?hz1
  case X1 => k_asm
  case Tp1 => k_asm
  case nd1 => k_dflt assumption
  case tk1 => (try dsimp only [gtT, hdT, stT, Hd.up, St.up, List.cons_append, List.nil_append]); walk_at "m take"
  case hA1 => exact ale_lv (by rfl) (Nat.le_of_ble_eq_true rfl) (Nat.le_of_ble_eq_true rfl)
  case mI1 => k_mem
  case mq1 => k_mem
  case hh1 => rfl
  case hf1 => k_is
  case hs1 => intro v9 T9 hp9; obtain ⟨rfl, _⟩ := hp9; exact ⟨_, _, rfl⟩
  case hz1 => intro u9 T9 h9 tk9 hp9; exact (tx1_ne hp9.1.symm).elim
  intro v9 T9 h9 tk9 hp9 _ F9 N9 nd9 E9
  obtain ⟨rfl, k9, rfl⟩ := hp9
  have hc8 := hA ζ.2.2.1.1 List.mem_cons_self
  (try dsimp only [gtT, gtV, hdT, stT, Hd.up, St.up, List.cons_append, List.nil_append] at N9 nd9)
  clear N ND
  walk_at "m go"
  try dsimp only
  refine' GtN.fin hN ‹_› ‹_› (by k_dflt assumption) (so2 _) ?l ?tk
  case l => walk_at "m loc"
  case tk => (try dsimp only [gtT, hdT, stT, Hd.up, St.up, List.cons_append, List.nil_append]); walk_at "m take"
end E_gt_ws
end
theorem gt_ws : ∀ {w g s p loose mean mg mb L' Q E m Rr d e tb I q t t1 c cs tx}, E_gt_ws.P w g s p loose mean mg mb L' Q E m Rr d e tb I q t t1 c cs tx := fun {w g s p loose mean mg mb L' Q E m Rr d e tb I q t t1 c cs tx} => by with_unfolding_all exact pk (c := E_gt_ws.ζ) rfl E_gt_ws.core (((((w, g), (s, p)), ((loose, mean), (mg, mb))), (((L', Q), (E, m)), ((Rr, d), (e, tb)))), (((I, q), (t, t1)), ((c, cs), tx)))
noncomputable section
namespace E_gt_eof
def P (w : World) (g : Heap) (s : Shared) (p : Program) (loose : List Str) (mean : EoV) (mg mb : SoV) (L' : Addr) (Q : FsP) (E : VsP) (m : SoV) (Rr : FsP) (d : Hd) (e : St) (tb : Tb) (I q : Addr) (t t1 : Tok) (tx : Str) : Prop := (d.fp = e.f1) → (d.ln < 50000) → (0 ≤ d.ln) → (StOk w e tb []) → ((hd.heap_39 w.params).In g) → (Top p loose mean mg mb g) → (Fr g L' s.heap (over (gtV d I (tx) t1) m)) → (News g L' s.heap (gtT w d e tb I q t)) → (Apart ((gtT w d e tb I q t).map (·.1))) → (∀ h tk, Fr g L' h (over (gtV d I tx t1) m) → News g L' h (hdT w d ++ stT e ++ [(tb.c2, tb.o2)]) → Apart ((hdT w d ++ stT e ++ [(tb.c2, tb.o2)]).map (·.1)) → Q .next { s with heap := h, toks := tk }) → wpAny (model Challenge.rw_uc0019_01.row.prog w) ((Lv 870).deeper (gtEnv L')) (pyNext (.ref I)) (ItTurn Challenge.rw_uc0019_01.row.prog w ((Lv 870).deeper (gtEnv L')) (gtEnv L') (Str.ofString "ch") (inS 3 gtB) [] Q Rr) E s
@[irreducible] def ζ := upick (by walk_at "m ne") ((ucat un16 (ucat un4 un1)) P)
@[irreducible] def w := ζ.1.1.1.1.1
@[irreducible] def g := ζ.1.1.1.1.2
@[irreducible] def s := ζ.1.1.1.2.1
@[irreducible] def L' := ζ.1.2.1.1.1
@[irreducible] def Q := ζ.1.2.1.1.2
@[irreducible] def E := ζ.1.2.1.2.1
@[irreducible] def m := ζ.1.2.1.2.2
@[irreducible] def Rr := ζ.1.2.2.1.1
@[irreducible] def d := ζ.1.2.2.1.2
@[irreducible] def e := ζ.1.2.2.2.1
@[irreducible] def tb := ζ.1.2.2.2.2
@[irreducible] def I := ζ.2.1.1.1
@[irreducible] def q := ζ.2.1.1.2
theorem core : P w g s ζ.1.1.1.2.2 ζ.1.1.2.1.1 ζ.1.1.2.1.2 ζ.1.1.2.2.1 ζ.1.1.2.2.2 L' Q E m Rr d e tb I q ζ.2.1.2.1 ζ.2.1.2.2 ζ.2.2 := by
  intro hfp hln hln0 so X Tp F N ND hQ
  revert X; k_fill; intro X
  show wpAny _ _ (pyNext _) _ _ _
  dsimp only [gtT, gtV, hdT, stT, Hd.up, St.up, List.cons_append, List.nil_append] at F N ND
  refine' next_spec (d := 890) (sp_rc0 d e tb hfp so) F ?X1 ?Tp1 N ?nd1 ?tk1 ?hA1 ?mI1 ?mq1 ?hh1 ?hf1 ?hs1 ?h1 ?hz1
  case X1 => k_asm
  case Tp1 => k_asm
  case nd1 => k_dflt assumption
  case tk1 => (try dsimp only [gtT, hdT, stT, Hd.up, St.up, List.cons_append, List.nil_append]); walk_at "m take"
  case hA1 => exact ale_lv (by rfl) (Nat.le_of_ble_eq_true rfl) (Nat.le_of_ble_eq_true rfl)
  case mI1 => k_mem
  case mq1 => k_mem
  case hh1 => rfl
  case hf1 => k_is
  case hs1 => intro v9 T9 hp9; obtain ⟨⟨u9, rfl⟩, _⟩ := hp9; exact ⟨_, _, rfl⟩
  case h1 => intro v9 T9 h9 tk9 hp9 hne; obtain ⟨⟨u9, rfl⟩, _⟩ := hp9; exact absurd (by rw [of_nil]) (hne u9)
  intro u9 T9 h9 tk9 hp9 F9 N9 nd9 E9
  obtain ⟨_, rfl⟩ := hp9
  clear N ND
  walk_at "m go"
  exact hQ _ _ F9 N9 nd9
end E_gt_eof
end
theorem gt_eof : ∀ {w g s p loose mean mg mb L' Q E m Rr d e tb I q t t1 tx}, E_gt_eof.P w g s p loose mean mg mb L' Q E m Rr d e tb I q t t1 tx := fun {w g s p loose mean mg mb L' Q E m Rr d e tb I q t t1 tx} => by with_unfolding_all exact pk (c := E_gt_eof.ζ) rfl E_gt_eof.core (((((w, g), (s, p)), ((loose, mean), (mg, mb))), (((L', Q), (E, m)), ((Rr, d), (e, tb)))), (((I, q), (t, t1)), tx))
noncomputable section
namespace E_gt_plain
def P (w : World) (g : Heap) (s : Shared) (p : Program) (loose : List Str) (mean : EoV) (mg mb : SoV) (L' : Addr) (Q : FsP) (E : VsP) (m : SoV) (R : RsP) (Rr : FsP) (d : Hd) (e : St) (tb : Tb) (I q : Addr) (t t1 : Tok) (tx : Str) (c : Nat) (b rest : List Nat) : Prop := (d.fp = e.f1) → (d.ln < 50000) → (0 ≤ d.ln) → (StOk w e tb (c :: (b ++ 13 :: rest))) → (∀ y_ ∈ c :: (b ++ 13 :: rest), y_ < 128) → (((b ++ 13 :: rest)).length ≤ 1000) → (isW c = false) → (c ≠ 34) → (c ≠ 92) → (∀ d ∈ b, isW d = false ∧ d ≠ 92) → (tx = Tx []) → ((hd.heap_39 w.params).In g) → (Top p loose mean mg mb g) → (Fr g L' s.heap (over (gtV d I (tx) t1) m)) → (News g L' s.heap (gtT w d e tb I q t)) → (Apart ((gtT w d e tb I q t).map (·.1))) → (∀ v s', Lve g R v s' → Rr (.ret v) s') → (∀ v T' h' tk, GtP w d e tb (d.ln) (c :: b) (rest) v T' → Gr g h' T' → Apart (T'.map (·.1)) → R (.ok (.ret v)) { s with heap := h', toks := tk }) → wpAny (model Challenge.rw_uc0019_01.row.prog w) ((Lv 870).deeper (gtEnv L')) (pyNext (.ref I)) (ItTurn Challenge.rw_uc0019_01.row.prog w ((Lv 870).deeper (gtEnv L')) (gtEnv L') (Str.ofString "ch") (inS 3 gtB) [] Q Rr) E s
@[irreducible] def ζ := upick (by walk_at "m ne") ((ucat un16 (ucat un8 un1)) P)
@[irreducible] def w := ζ.1.1.1.1.1
@[irreducible] def g := ζ.1.1.1.1.2
@[irreducible] def s := ζ.1.1.1.2.1
@[irreducible] def L' := ζ.1.2.1.1.1
@[irreducible] def Q := ζ.1.2.1.1.2
@[irreducible] def E := ζ.1.2.1.2.1
@[irreducible] def m := ζ.1.2.1.2.2
@[irreducible] def Rr := ζ.1.2.2.1.2
@[irreducible] def d := ζ.1.2.2.2.1
@[irreducible] def e := ζ.1.2.2.2.2
@[irreducible] def tb := ζ.2.1.1.1.1
@[irreducible] def I := ζ.2.1.1.1.2
@[irreducible] def q := ζ.2.1.1.2.1
@[irreducible] def c := ζ.2.1.2.2.1
@[irreducible] def rest := ζ.2.2
theorem core : P w g s ζ.1.1.1.2.2 ζ.1.1.2.1.1 ζ.1.1.2.1.2 ζ.1.1.2.2.1 ζ.1.1.2.2.2 L' Q E m ζ.1.2.2.1.1 Rr d e tb I q ζ.2.1.1.2.2 ζ.2.1.2.1.1 ζ.2.1.2.1.2 c ζ.2.1.2.2.2 rest := by
  intro hfp hln hln0 so hA hlen h1 h2 h3 hb htx X Tp F N ND hR k
  revert X; k_fill; intro X
  show wpAny _ _ (pyNext _) _ _ _
  dsimp only [gtT, gtV, hdT, stT, Hd.up, St.up, List.cons_append, List.nil_append] at F N ND
  obtain ⟨ty, ys2, hye, so2⟩ := st_cons so
  refine' next_spec (d := 890) (sp_rc1 d e tb hfp (c) ((ζ.2.1.2.2.2 ++ 13 :: rest)) _ _ hA hlen (by lia) hln0 hye so) F ?X1 ?Tp1 N ?nd1 ?tk1 ?hA1 ?mI1 ?mq1 ?hh1 ?hf1 ?hs1 ?h1 ?hz1
  case X1 => k_asm
  case Tp1 => k_asm
  case nd1 => k_dflt assumption
  case tk1 => (try dsimp only [gtT, hdT, stT, Hd.up, St.up, List.cons_append, List.nil_append]); walk_at "m take"
  case hA1 => exact ale_lv (by rfl) (Nat.le_of_ble_eq_true rfl) (Nat.le_of_ble_eq_true rfl)
  case mI1 => k_mem
  case mq1 => k_mem
  case hh1 => rfl
  case hf1 => k_is
  case hs1 => intro v9 T9 hp9; obtain ⟨rfl, _⟩ := hp9; exact ⟨_, _, rfl⟩
  case hz1 => intro u9 T9 h9 tk9 hp9; exact (tx1_ne hp9.1.symm).elim
  intro v9 T9 h9 tk9 hp9 _ F9 N9 nd9 E9
  obtain ⟨rfl, k9, rfl⟩ := hp9
  have hwc := h1
  have hc8 := hA c List.mem_cons_self
  have q34 : decide (c = 34) = false := by simpa using h2
  have q92 : decide (c = 92) = false := by simpa using h3
  (try dsimp only [gtT, gtV, hdT, stT, Hd.up, St.up, List.cons_append, List.nil_append] at N9 nd9)
  rw [if_neg (isW_ten h1)] at N9 nd9
  clear N ND
  walk_at "m go"
  try dsimp only
  obtain ⟨Nx, ndx⟩ := take2 (rest := []) ‹_› (by k_dflt assumption) (show TakeAll _ (gtT w (d.up d.ln k9) (e.up ys2 (e.n + 1)) tb I q ζ.2.1.1.2.2) [] by (try dsimp only [gtT, hdT, stT, Hd.up, St.up, List.cons_append, List.nil_append]); walk_at "m take")
  refine' gt_in (d := (d.up d.ln k9)) (e := (e.up ys2 (e.n + 1))) (t := ζ.2.1.1.2.2) (dn := [] ++ [c]) (tx := Tx ([] ++ [c])) hfp hln hln0 hb (fun x hx => hA x ?i1) ?i2 (so2 (e.n + 1)) ?i3 rfl X Tp ?F ?l ?Nx ?ndx hR ?k
  case k => exact k
  case Nx => exact Nx
  case ndx => exact ndx
  case F => assumption
  case i1 => simp at hx ⊢; rcases hx with h | h | h <;> simp [h]
  case i2 => simp at hlen ⊢; lia
  case i3 => simp at hlen ⊢; lia
  case l => walk_at "m loc"
end E_gt_plain
end
theorem gt_plain : ∀ {w g s p loose mean mg mb L' Q E m R Rr d e tb I q t t1 tx c b rest}, E_gt_plain.P w g s p loose mean mg mb L' Q E m R Rr d e tb I q t t1 tx c b rest := fun {w g s p loose mean mg mb L' Q E m R Rr d e tb I q t t1 tx c b rest} => by with_unfolding_all exact pk (c := E_gt_plain.ζ) rfl E_gt_plain.core (((((w, g), (s, p)), ((loose, mean), (mg, mb))), (((L', Q), (E, m)), ((R, Rr), (d, e)))), ((((tb, I), (q, t)), ((t1, tx), (c, b))), rest))
noncomputable section
namespace E_gt_quo
def P (w : World) (g : Heap) (s : Shared) (p : Program) (loose : List Str) (mean : EoV) (mg mb : SoV) (L' : Addr) (Q : FsP) (E : VsP) (m : SoV) (R : RsP) (Rr : FsP) (d : Hd) (e : St) (tb : Tb) (I q : Addr) (t t1 : Tok) (tx : Str) (tok rest : List Nat) : Prop := (d.fp = e.f1) → (d.ln < 50000) → (0 ≤ d.ln) → (StOk w e tb (34 :: (tok ++ 34 :: rest))) → (∀ y_ ∈ 34 :: (tok ++ 34 :: rest), y_ < 128) → (((tok ++ 34 :: rest)).length ≤ 1000) → (∀ d ∈ tok, d ≠ 10 ∧ d ≠ 34 ∧ d ≠ 92) → (tx = Tx []) → ((hd.heap_39 w.params).In g) → (Top p loose mean mg mb g) → (Fr g L' s.heap (over (gtV d I (tx) t1) m)) → (News g L' s.heap (gtT w d e tb I q t)) → (Apart ((gtT w d e tb I q t).map (·.1))) → (∀ v s', Lve g R v s' → Rr (.ret v) s') → (∀ v T' h' tk, GtP w d e tb (d.ln) (tok) (rest) v T' → Gr g h' T' → Apart (T'.map (·.1)) → R (.ok (.ret v)) { s with heap := h', toks := tk }) → wpAny (model Challenge.rw_uc0019_01.row.prog w) ((Lv 870).deeper (gtEnv L')) (pyNext (.ref I)) (ItTurn Challenge.rw_uc0019_01.row.prog w ((Lv 870).deeper (gtEnv L')) (gtEnv L') (Str.ofString "ch") (inS 3 gtB) [] Q Rr) E s
@[irreducible] def ζ := upick (by walk_at "m ne") ((ucat un16 un8) P)
@[irreducible] def w := ζ.1.1.1.1.1
@[irreducible] def g := ζ.1.1.1.1.2
@[irreducible] def s := ζ.1.1.1.2.1
@[irreducible] def L' := ζ.1.2.1.1.1
@[irreducible] def Q := ζ.1.2.1.1.2
@[irreducible] def E := ζ.1.2.1.2.1
@[irreducible] def m := ζ.1.2.1.2.2
@[irreducible] def Rr := ζ.1.2.2.1.2
@[irreducible] def d := ζ.1.2.2.2.1
@[irreducible] def e := ζ.1.2.2.2.2
@[irreducible] def tb := ζ.2.1.1.1
@[irreducible] def I := ζ.2.1.1.2
@[irreducible] def q := ζ.2.1.2.1
@[irreducible] def rest := ζ.2.2.2.2
theorem core : P w g s ζ.1.1.1.2.2 ζ.1.1.2.1.1 ζ.1.1.2.1.2 ζ.1.1.2.2.1 ζ.1.1.2.2.2 L' Q E m ζ.1.2.2.1.1 Rr d e tb I q ζ.2.1.2.2 ζ.2.2.1.1 ζ.2.2.1.2 ζ.2.2.2.1 rest := by
  intro hfp hln hln0 so hA hlen hb htx X Tp F N ND hR k
  revert X; k_fill; intro X
  show wpAny _ _ (pyNext _) _ _ _
  dsimp only [gtT, gtV, hdT, stT, Hd.up, St.up, List.cons_append, List.nil_append] at F N ND
  obtain ⟨ty, ys2, hye, so2⟩ := st_cons so
  refine' next_spec (d := 890) (sp_rc1 d e tb hfp (34) ((ζ.2.2.2.1 ++ 34 :: rest)) _ _ hA hlen (by lia) hln0 hye so) F ?X1 ?Tp1 N ?nd1 ?tk1 ?hA1 ?mI1 ?mq1 ?hh1 ?hf1 ?hs1 ?h1 ?hz1
  case X1 => k_asm
  case Tp1 => k_asm
  case nd1 => k_dflt assumption
  case tk1 => (try dsimp only [gtT, hdT, stT, Hd.up, St.up, List.cons_append, List.nil_append]); walk_at "m take"
  case hA1 => exact ale_lv (by rfl) (Nat.le_of_ble_eq_true rfl) (Nat.le_of_ble_eq_true rfl)
  case mI1 => k_mem
  case mq1 => k_mem
  case hh1 => rfl
  case hf1 => k_is
  case hs1 => intro v9 T9 hp9; obtain ⟨rfl, _⟩ := hp9; exact ⟨_, _, rfl⟩
  case hz1 => intro u9 T9 h9 tk9 hp9; exact (tx1_ne hp9.1.symm).elim
  intro v9 T9 h9 tk9 hp9 _ F9 N9 nd9 E9
  obtain ⟨rfl, k9, rfl⟩ := hp9
  have hwc : isW 34 = false := rfl
  have hc8 : 34 < 128 := by decide
  have q34 : decide (34 = 34) = true := by decide
  (try dsimp only [gtT, gtV, hdT, stT, Hd.up, St.up, List.cons_append, List.nil_append] at N9 nd9)
  rw [if_neg (by decide)] at N9 nd9
  clear N ND
  walk_at "m go"
  try dsimp only
  obtain ⟨Nx, ndx⟩ := take2 (rest := []) ‹_› (by k_dflt assumption) (show TakeAll _ (gtT w (d.up d.ln k9) (e.up ys2 (e.n + 1)) tb I q ζ.2.1.2.2) [] by (try dsimp only [gtT, hdT, stT, Hd.up, St.up, List.cons_append, List.nil_append]); walk_at "m take")
  refine' gt_qu (d := (d.up d.ln k9)) (e := (e.up ys2 (e.n + 1))) (t := ζ.2.1.2.2) (dn := []) (tx := ζ.2.2.1.2) hfp hln hln0 hb (fun x hx => hA x ?i1) ?i2 (so2 (e.n + 1)) ?i3 htx X Tp ?F ?l ?Nx ?ndx hR ?k
  case k => exact k
  case Nx => exact Nx
  case ndx => exact ndx
  case F => assumption
  case i1 => simp at hx ⊢; rcases hx with h | h | h <;> simp [h]
  case i2 => simp at hlen ⊢; lia
  case i3 => simp at hlen ⊢; lia
  case l => walk_at "m loc"
end E_gt_quo
end
theorem gt_quo : ∀ {w g s p loose mean mg mb L' Q E m R Rr d e tb I q t t1 tx tok rest}, E_gt_quo.P w g s p loose mean mg mb L' Q E m R Rr d e tb I q t t1 tx tok rest := fun {w g s p loose mean mg mb L' Q E m R Rr d e tb I q t t1 tx tok rest} => by with_unfolding_all exact pk (c := E_gt_quo.ζ) rfl E_gt_quo.core (((((w, g), (s, p)), ((loose, mean), (mg, mb))), (((L', Q), (E, m)), ((R, Rr), (d, e)))), (((tb, I), (q, t)), ((t1, tx), (tok, rest))))
noncomputable section
namespace E_gt_esc
def P (w : World) (g : Heap) (s : Shared) (p : Program) (loose : List Str) (mean : EoV) (mg mb : SoV) (L' : Addr) (Q : FsP) (E : VsP) (m : SoV) (R : RsP) (Rr : FsP) (d : Hd) (e : St) (tb : Tb) (I q : Addr) (t t1 : Tok) (tx : Str) (c : Nat) (b rest : List Nat) : Prop := (d.fp = e.f1) → (d.ln < 50000) → (0 ≤ d.ln) → (StOk w e tb (92 :: (c :: (b ++ 13 :: rest)))) → (∀ y_ ∈ 92 :: (c :: (b ++ 13 :: rest)), y_ < 128) → (((c :: (b ++ 13 :: rest))).length ≤ 1000) → (c ≠ 10) → (∀ d ∈ b, isW d = false ∧ d ≠ 92) → (tx = Tx []) → ((hd.heap_39 w.params).In g) → (Top p loose mean mg mb g) → (Fr g L' s.heap (over (gtV d I (tx) t1) m)) → (News g L' s.heap (gtT w d e tb I q t)) → (Apart ((gtT w d e tb I q t).map (·.1))) → (∀ v s', Lve g R v s' → Rr (.ret v) s') → (∀ v T' h' tk, GtP w d e tb (d.ln) (c :: b) (rest) v T' → Gr g h' T' → Apart (T'.map (·.1)) → R (.ok (.ret v)) { s with heap := h', toks := tk }) → wpAny (model Challenge.rw_uc0019_01.row.prog w) ((Lv 870).deeper (gtEnv L')) (pyNext (.ref I)) (ItTurn Challenge.rw_uc0019_01.row.prog w ((Lv 870).deeper (gtEnv L')) (gtEnv L') (Str.ofString "ch") (inS 3 gtB) [] Q Rr) E s
@[irreducible] def ζ := upick (by walk_at "m ne") ((ucat un16 (ucat un8 un1)) P)
@[irreducible] def w := ζ.1.1.1.1.1
@[irreducible] def g := ζ.1.1.1.1.2
@[irreducible] def s := ζ.1.1.1.2.1
@[irreducible] def L' := ζ.1.2.1.1.1
@[irreducible] def Q := ζ.1.2.1.1.2
@[irreducible] def E := ζ.1.2.1.2.1
@[irreducible] def m := ζ.1.2.1.2.2
@[irreducible] def Rr := ζ.1.2.2.1.2
@[irreducible] def d := ζ.1.2.2.2.1
@[irreducible] def e := ζ.1.2.2.2.2
@[irreducible] def tb := ζ.2.1.1.1.1
@[irreducible] def I := ζ.2.1.1.1.2
@[irreducible] def q := ζ.2.1.1.2.1
@[irreducible] def c := ζ.2.1.2.2.1
@[irreducible] def rest := ζ.2.2
theorem core : P w g s ζ.1.1.1.2.2 ζ.1.1.2.1.1 ζ.1.1.2.1.2 ζ.1.1.2.2.1 ζ.1.1.2.2.2 L' Q E m ζ.1.2.2.1.1 Rr d e tb I q ζ.2.1.1.2.2 ζ.2.1.2.1.1 ζ.2.1.2.1.2 c ζ.2.1.2.2.2 rest := by
  intro hfp hln hln0 so hA hlen h1 hb htx X Tp F N ND hR k
  revert X; k_fill; intro X
  show wpAny _ _ (pyNext _) _ _ _
  dsimp only [gtT, gtV, hdT, stT, Hd.up, St.up, List.cons_append, List.nil_append] at F N ND
  obtain ⟨ty, ys2, hye, so2⟩ := st_cons so
  refine' next_spec (d := 890) (sp_rc1 d e tb hfp (92) ((c :: (ζ.2.1.2.2.2 ++ 13 :: rest))) _ _ hA hlen (by lia) hln0 hye so) F ?X1 ?Tp1 N ?nd1 ?tk1 ?hA1 ?mI1 ?mq1 ?hh1 ?hf1 ?hs1 ?h1 ?hz1
  case X1 => k_asm
  case Tp1 => k_asm
  case nd1 => k_dflt assumption
  case tk1 => (try dsimp only [gtT, hdT, stT, Hd.up, St.up, List.cons_append, List.nil_append]); walk_at "m take"
  case hA1 => exact ale_lv (by rfl) (Nat.le_of_ble_eq_true rfl) (Nat.le_of_ble_eq_true rfl)
  case mI1 => k_mem
  case mq1 => k_mem
  case hh1 => rfl
  case hf1 => k_is
  case hs1 => intro v9 T9 hp9; obtain ⟨rfl, _⟩ := hp9; exact ⟨_, _, rfl⟩
  case hz1 => intro u9 T9 h9 tk9 hp9; exact (tx1_ne hp9.1.symm).elim
  intro v9 T9 h9 tk9 hp9 _ F9 N9 nd9 E9
  obtain ⟨rfl, k9, rfl⟩ := hp9
  have hwc : isW 92 = false := rfl
  have hc8 : 92 < 128 := by decide
  have q34 : decide (92 = 34) = false := by decide
  have q92 : decide (92 = 92) = true := by decide
  (try dsimp only [gtT, gtV, hdT, stT, Hd.up, St.up, List.cons_append, List.nil_append] at N9 nd9)
  rw [if_neg (by decide)] at N9 nd9
  clear N ND
  walk_at "m go"
  try dsimp only
  obtain ⟨ty4, ys4, hye4, so4⟩ := st_cons (so2 (e.n + 1))
  dsimp only at hye4
  refine' call_spec (d := 890) (sp_rc1 (d.up d.ln k9) (e.up ys2 (e.n + 1)) tb hfp c (ζ.2.1.2.2.2 ++ 13 :: rest) _ ys4 ?hl8 ?hn8 (by dsimp only; lia) hln0 hye4 (so2 (e.n + 1))) ?F8 ?X8 ?Tp8 ?N8 ?nd8 ?tk8 ?hA8 ?_
  case hl8 => exact fun d hd => hA d (List.mem_cons_of_mem _ hd)
  case hn8 => simp at hlen ⊢; lia
  case F8 => assumption
  case X8 => k_asm
  case Tp8 => k_asm
  case N8 => assumption
  case nd8 => k_dflt assumption
  case tk8 => (try dsimp only [gtT, hdT, stT, Hd.up, St.up, List.cons_append, List.nil_append]); walk_at "m take"
  case hA8 => exact ale_lv (by rfl) (Nat.le_of_ble_eq_true rfl) (Nat.le_of_ble_eq_true rfl)
  intro v8 T8 h8 tk8 hp8 F8 N8 nd8
  obtain ⟨rfl, k8, rfl⟩ := hp8
  (try dsimp only [gtT, gtV, hdT, stT, Hd.up, St.up, List.cons_append, List.nil_append] at N8 nd8)
  rw [if_neg h1] at N8 nd8
  walk_at "m go"
  try dsimp only
  obtain ⟨Nx, ndx⟩ := take2 (rest := []) ‹_› (by k_dflt assumption) (show TakeAll _ (gtT w (d.up d.ln k8) (e.up ys4 (e.n + 1 + 1)) tb I q ζ.2.1.1.2.2) [] by (try dsimp only [gtT, hdT, stT, Hd.up, St.up, List.cons_append, List.nil_append]); walk_at "m take")
  refine' gt_in (d := (d.up d.ln k8)) (e := (e.up ys4 (e.n + 1 + 1))) (t := ζ.2.1.1.2.2) (dn := [] ++ [c]) (tx := Tx ([] ++ [c])) hfp hln hln0 hb (fun x hx => hA x ?i1) ?i2 (so4 (e.n + 1 + 1)) ?i3 rfl X Tp ?F ?l ?Nx ?ndx hR ?k
  case k => exact k
  case Nx => exact Nx
  case ndx => exact ndx
  case F => assumption
  case i1 => simp at hx ⊢; rcases hx with h | h | h <;> simp [h]
  case i2 => simp at hlen ⊢; lia
  case i3 => simp at hlen ⊢; lia
  case l => walk_at "m loc"
end E_gt_esc
end
theorem gt_esc : ∀ {w g s p loose mean mg mb L' Q E m R Rr d e tb I q t t1 tx c b rest}, E_gt_esc.P w g s p loose mean mg mb L' Q E m R Rr d e tb I q t t1 tx c b rest := fun {w g s p loose mean mg mb L' Q E m R Rr d e tb I q t t1 tx c b rest} => by with_unfolding_all exact pk (c := E_gt_esc.ζ) rfl E_gt_esc.core (((((w, g), (s, p)), ((loose, mean), (mg, mb))), (((L', Q), (E, m)), ((R, Rr), (d, e)))), ((((tb, I), (q, t)), ((t1, tx), (c, b))), rest))
end
section
theorem tail_or {tl tok rest : List Nat} (h : Tail tl tok rest) : (tl = [] ∧ tok = [] ∧ rest = []) ∨ (∃ c b, tl = c :: (b ++ 13 :: rest) ∧ tok = c :: b ∧ isW c = false ∧ c ≠ 34 ∧ c ≠ 92 ∧ ∀ d ∈ b, isW d = false ∧ d ≠ 92) ∨ (∃ c b, tl = 92 :: c :: (b ++ 13 :: rest) ∧ tok = c :: b ∧ c ≠ 10 ∧ ∀ d ∈ b, isW d = false ∧ d ≠ 92) ∨ (tl = 34 :: (tok ++ 34 :: rest) ∧ ∀ d ∈ tok, d ≠ 10 ∧ d ≠ 34 ∧ d ≠ 92) := by
  cases h with
  | eof => exact .inl ⟨rfl, rfl, rfl⟩
  | plain a b c d => exact .inr (.inl ⟨_, _, rfl, rfl, a, b, c, d⟩)
  | esc a b => exact .inr (.inr (.inl ⟨_, _, rfl, rfl, a, b⟩))
  | quo a => exact .inr (.inr (.inr ⟨rfl, a⟩))
noncomputable section
namespace E_sp_get_c
def P (w : World) (d : Hd) (e : St) (tb : Tb) (W tl tok rest : List Nat) (g : Heap) (s : Shared) (R : RsP) (p : Program) (loose : List Str) (mean : EoV) (mg mb : SoV) : Prop := (d.fp = e.f1) → (∀ c ∈ W, isW c = true) → (Tail tl tok rest) → (∀ c ∈ W ++ tl, c < 128) → ((W ++ tl).length ≤ 1000) → (d.vs = []) → (0 ≤ d.ln) → (d.ln < 10000) → (StOk w e tb (W ++ tl)) → SpecAt w 870 140 [.ref d.x] (hdT w d ++ stT e ++ [(tb.c2, tb.o2)]) (fun v T' => ∃ k2 ys n1, StrV v tok ∧ T' = hdT w { d with ln := d.ln + nl W, k2 := k2 } ++ stT { e with ys := ys, n := n1 } ++ [(tb.c2, tb.o2)] ∧ StOk w { e with ys := ys, n := n1 } tb rest) g s R p loose mean mg mb
@[irreducible] def ζ := upick (by walk_at "m ne") (un16 P)
@[irreducible] def w := ζ.1.1.1.1
@[irreducible] def d := ζ.1.1.1.2
@[irreducible] def e := ζ.1.1.2.1
@[irreducible] def tb := ζ.1.1.2.2
@[irreducible] def W := ζ.1.2.1.1
@[irreducible] def tl := ζ.1.2.1.2
@[irreducible] def rest := ζ.1.2.2.2
@[irreducible] def g := ζ.2.1.1.1
@[irreducible] def s := ζ.2.1.1.2
theorem core : P w d e tb W tl ζ.1.2.2.1 rest g s ζ.2.1.2.1 ζ.2.1.2.2 ζ.2.2.1.1 ζ.2.2.1.2 ζ.2.2.2.1 ζ.2.2.2.2 := by
  intro hfp hW ht hA hlen hv0 hln0 hln1 so X Tp G ND k
  revert X; k_fill; intro X
  refine' enterS (binds := [(Str.ofString "self", .ref d.x)]) X Tp G ?k6 ?k7 ?k8 ?k9 ?kB ?_ ?c2 ?c3 ?c4 ?c5
  case k6 => k_is
  case k7 => k_is
  case k8 => decide
  case k9 => exact BindsTo.of_eq rfl
  case c5 => decide
  case kB => exact locs rfl
  case c2 => exact rfl
  case c3 => exact rfl
  case c4 => exact rfl
  intro h' F' N'
  try dsimp only
  try dsimp only [wsT, List.cons_append, List.nil_append] at N' ND
  try k_fold
  (try dsimp only [gtT, gtV, hdT, stT, Hd.up, St.up, List.cons_append, List.nil_append] at N' ND)
  rw [hv0] at N' ND
  walk_at "m go"
  rename_i q0 _ _ I0 _ _ _ _ _
  walk_at "m for"
  walk_at "m go"
  have hnl := nl_le W
  have hlW : W.length ≤ 1000 := by rw [List.length_append] at hlen; lia
  refine' for_itR (L := s.heap.objs.size) (n := W.length) (J := fun k V T => ∃ (t t1 k2 : Tok) (ys : List Value) (n1 : Nat) (W' : List Nat) (tx : Str), V = gtV d I0 tx t1 ∧ T = gtT w (d.up (d.ln + (nl W : Int) - (nl W' : Int)) k2) (e.up ys n1) tb I0 q0 t ∧ k = W'.length ∧ (∀ c ∈ W', isW c = true) ∧ W'.length ≤ W.length ∧ nl W' ≤ nl W ∧ (∀ c ∈ W' ++ tl, c < 128) ∧ StOk w (e.up ys n1) tb (W' ++ tl) ∧ tx = Tx []) (V₀ := _) ?hI ‹_› ?lc ‹_› (by k_dflt assumption) ⟨_, _, d.k2, e.ys, e.n, W, _, rfl, rfl, rfl, hW, Nat.le_refl _, Nat.le_refl _, hA, so, of_nil⟩ ?tk ?_
  case hI => k_mem
  case lc => walk_at "m loc"
  case tk => rw [show d.ln + (nl W : Int) - (nl W : Int) = d.ln by lia]; (try dsimp only [gtT, hdT, stT, Hd.up, St.up, List.cons_append, List.nil_append]); rw [hv0]; walk_at "m take"
  intro k' m V T h₁ tk₁ E' Rr hRr j F₁ N₁ nd₁
  obtain ⟨t, t1, k2, ys, n1, W', tx, rfl, rfl, rfl, hW', hWl, hnl', hA', so', htx⟩ := j
  cases W' with
  | cons c W2 =>
    rw [List.cons_append] at so' hA'
    exact gt_ws (d := d.up (d.ln + (nl W : Int) - (nl (c :: W2) : Int)) k2) (e := e.up ys n1) hfp (by dsimp only; lia) (by dsimp only; lia) so' hA' (by rw [List.length_append] at hlen ⊢; rw [List.length_cons] at hWl; lia) (hW' c List.mem_cons_self) X Tp F₁ N₁ nd₁ fun h tk m t t1 k2 ys n so F l N nd => hRr _ _ ⟨W2.length, h, tk, m, _, _, Nat.lt_succ_self _, rfl, F, l, N, nd, t, t1, k2, ys, n, W2, _, rfl, by rw [← ln_step (c := c) (l := W2)], rfl, fun d hd => hW' d (List.mem_cons_of_mem _ hd), by rw [List.length_cons] at hWl; lia, by have := nl_cons c W2; lia, fun d hd => hA' d (List.mem_cons_of_mem _ hd), so, htx⟩
  | nil =>
    rw [List.nil_append] at so' hA'
    rw [show d.ln + (nl W : Int) - (nl [] : Int) = d.ln + nl W by simp [nl]] at N₁ nd₁
    rw [List.length_append] at hlen
    rcases tail_or ht with ⟨e1, e2, e3⟩ | ⟨c, b, e1, e2, h1, h2, h3, hb⟩ | ⟨c, b, e1, e2, h1, hb⟩ | ⟨e1, hb⟩
    · rw [e1] at so'
      refine gt_eof (d := d.up (d.ln + nl W) k2) (e := e.up ys n1) hfp (by dsimp only; lia) (by dsimp only; lia) so' X Tp F₁ N₁ nd₁ fun h tk F N nd => ?_
      dsimp only [gtV] at F
      walk_at "m go"
      try dsimp only
      refine' lve_k k ⟨_, _, _, strV (htx.trans (by rw [e2])), rfl, e3 ▸ so'⟩ ‹_› ‹_› (by k_dflt assumption) ?tkq
      case tkq => (try dsimp only [gtT, hdT, stT, Hd.up, St.up, List.cons_append, List.nil_append]); walk_at "m take"
    · rw [e1] at so' hA' hlen
      exact gt_plain (d := d.up (d.ln + nl W) k2) (e := e.up ys n1) hfp (by dsimp only; lia) (by dsimp only; lia) so' hA' (by simp at hlen ⊢; lia) h1 h2 h3 hb htx X Tp F₁ N₁ nd₁ (fun v s' h => hRr _ _ h) (fun v T9 h9 tk9 hp => k v T9 h9 tk9 (by rw [e2]; exact hp))
    · rw [e1] at so' hA' hlen
      exact gt_esc (d := d.up (d.ln + nl W) k2) (e := e.up ys n1) hfp (by dsimp only; lia) (by dsimp only; lia) so' hA' (by simp at hlen ⊢; lia) h1 hb htx X Tp F₁ N₁ nd₁ (fun v s' h => hRr _ _ h) (fun v T9 h9 tk9 hp => k v T9 h9 tk9 (by rw [e2]; exact hp))
    · rw [e1] at so' hA' hlen
      exact gt_quo (d := d.up (d.ln + nl W) k2) (e := e.up ys n1) hfp (by dsimp only; lia) (by dsimp only; lia) so' hA' (by simp at hlen ⊢; lia) hb htx X Tp F₁ N₁ nd₁ (fun v s' h => hRr _ _ h) (fun v T9 h9 tk9 hp => k v T9 h9 tk9 hp)
end E_sp_get_c
end
theorem sp_get_c : ∀ {w d e tb W tl tok rest g s R p loose mean mg mb}, E_sp_get_c.P w d e tb W tl tok rest g s R p loose mean mg mb := fun {w d e tb W tl tok rest g s R p loose mean mg mb} => by with_unfolding_all exact pk (c := E_sp_get_c.ζ) rfl E_sp_get_c.core ((((w, d), (e, tb)), ((W, tl), (tok, rest))), (((g, s), (R, p)), ((loose, mean), (mg, mb))))
theorem sp_get {w : World} (d : Hd) (e : St) (tb : Tb) (hfp : d.fp = e.f1) (W tl tok rest : List Nat) (hW : ∀ c ∈ W, isW c = true) (ht : Tail tl tok rest) (hA : ∀ c ∈ W ++ tl, c < 128) (hlen : (W ++ tl).length ≤ 1000) (hv0 : d.vs = []) (hln0 : 0 ≤ d.ln) (hln1 : d.ln < 10000) (so : StOk w e tb (W ++ tl)) : Spec w 870 140 [.ref d.x] (hdT w d ++ stT e ++ [(tb.c2, tb.o2)]) (fun v T' => ∃ k2 ys n1, StrV v tok ∧ T' = hdT w { d with ln := d.ln + nl W, k2 := k2 } ++ stT { e with ys := ys, n := n1 } ++ [(tb.c2, tb.o2)] ∧ StOk w { e with ys := ys, n := n1 } tb rest) := by
  exact fun g s R p loose mean mg mb => @sp_get_c w d e tb W tl tok rest g s R p loose mean mg mb hfp hW ht hA hlen hv0 hln0 hln1 so
end
section
noncomputable section
namespace E_sp_quote_c
def P (w : World) (l : List Nat) (t0 : Tok) (g : Heap) (s : Shared) (R : RsP) (p : Program) (loose : List Str) (mean : EoV) (mg mb : SoV) : Prop := (l.length ≤ 1000) → SpecAt w 900 171 [.str (Tx l) t0] ([]) (fun v T' => StrV v (quoteL l) ∧ T' = []) g s R p loose mean mg mb
@[irreducible] def ζ := upick (by walk_at "m ne") ((ucat un8 (ucat un2 un1)) P)
@[irreducible] def w := ζ.1.1.1.1
@[irreducible] def g := ζ.1.1.2.2
@[irreducible] def s := ζ.1.2.1.1
theorem core : P w ζ.1.1.1.2 ζ.1.1.2.1 g s ζ.1.2.1.2 ζ.1.2.2.1 ζ.1.2.2.2 ζ.2.1.1 ζ.2.1.2 ζ.2.2 := by
  intro hlen X Tp G ND k
  revert X; k_fill; intro X
  refine' enterS (binds := [(Str.ofString "data", .str (Tx ζ.1.1.1.2) ζ.1.1.2.1)]) X Tp G ?k6 ?k7 ?k8 ?k9 ?kB ?_ ?c2 ?c3 ?c4 ?c5
  case k6 => k_is
  case k7 => k_is
  case k8 => decide
  case k9 => exact BindsTo.of_eq rfl
  case c5 => decide
  case kB => exact locs rfl
  case c2 => exact rfl
  case c3 => exact rfl
  case c4 => exact rfl
  intro h' F' N'
  try dsimp only
  try dsimp only [wsT, List.cons_append, List.nil_append] at N' ND
  try k_fold
  have hl2 := sub2_len ζ.1.1.1.2
  walk_at "m go"
  try dsimp only
  refine' crlfK ?F1 ?X1 ?N1 ?hP1 ?h51 ?hC1 ?h61 ?h21 ?hc1 ?hn1 ?_
  case F1 => assumption
  case X1 => assumption
  case N1 => assumption
  case hP1 => k_is
  case h51 => rfl
  case hC1 => k_is
  case h61 => rfl
  case h21 => rfl
  case hc1 => decide +kernel
  case hn1 => lia
  intro h1 tk1 t1 F1 N1
  walk_at "m go"
  try dsimp only
  refine' dotsK ?F2 ?X2 ?N2 ?hP2 ?h52 ?hC2 ?h62 ?h22 ?hc2 ?hn2 ?_
  case F2 => assumption
  case X2 => assumption
  case N2 => assumption
  case hP2 => k_is
  case h52 => rfl
  case hC2 => k_is
  case h62 => rfl
  case h22 => rfl
  case hc2 => decide +kernel
  case hn2 => lia
  intro h2 tk2 t2 F2 N2
  walk_at "m go"
  try dsimp only
  refine' lve_k k ⟨⟨_, rfl⟩, rfl⟩ ‹_› ‹_› (by k_dflt assumption) ?tk
  case tk => walk_at "m take"
end E_sp_quote_c
end
theorem sp_quote_c : ∀ {w l t0 g s R p loose mean mg mb}, E_sp_quote_c.P w l t0 g s R p loose mean mg mb := fun {w l t0 g s R p loose mean mg mb} => by with_unfolding_all exact pk (c := E_sp_quote_c.ζ) rfl E_sp_quote_c.core ((((w, l), (t0, g)), ((s, R), (p, loose))), ((mean, mg), mb))
theorem sp_quote {w : World} (l : List Nat) (t0 : Tok) (hlen : l.length ≤ 1000) : Spec w 900 171 [.str (Tx l) t0] ([]) (fun v T' => StrV v (quoteL l) ∧ T' = []) := by
  exact fun g s R p loose mean mg mb => @sp_quote_c w l t0 g s R p loose mean mg mb hlen
end
section
theorem sp_hidden0 {w : World} (x : Str) (t u : Tok) (hx : x.length ≤ 1000) : Spec w 900 199 [.str x t, .int 0 u] ([]) (fun v T' => (∃ t, v = .str (Str.ofString " " ++ x) t) ∧ T' = []) := by
  intro g s R p loose mean mg mb X Tp G ND k
  revert X; k_fill; intro X
  refine' enter (binds := [(Str.ofString "word", .str x t), (Str.ofString "way", .int 0 u)]) X Tp G ?k6 ?k7 ?k8 ?k9 ?kB ?_ ?c2 ?c3 ?c4 ?c5
  case k6 => k_is
  case k7 => k_is
  case k8 => decide
  case k9 => exact BindsTo.of_eq rfl
  case c5 => decide
  case kB => exact locs rfl
  case c2 => exact rfl
  case c3 => exact rfl
  case c4 => exact rfl
  intro L' h' F' N'
  try dsimp only
  try dsimp only [wsT, List.cons_append, List.nil_append] at N' ND
  try k_fold
  walk_at "m go"
  all_goals (refine lve_ ‹_› ‹_› ?_; intro G'; refine k _ _ _ _ ?_ G' (by first | assumption | exact ND))
  all_goals exact ⟨⟨_, rfl⟩, rfl⟩
theorem sp_hidden1 {w : World} (x : Str) (t u : Tok) (hx : x.length ≤ 1000) : Spec w 900 199 [.str x t, .int 1 u] ([]) (fun v T' => (∃ t, v = .str (Str.ofString "\\" ++ x) t) ∧ T' = []) := by
  intro g s R p loose mean mg mb X Tp G ND k
  revert X; k_fill; intro X
  refine' enter (binds := [(Str.ofString "word", .str x t), (Str.ofString "way", .int 1 u)]) X Tp G ?k6 ?k7 ?k8 ?k9 ?kB ?_ ?c2 ?c3 ?c4 ?c5
  case k6 => k_is
  case k7 => k_is
  case k8 => decide
  case k9 => exact BindsTo.of_eq rfl
  case c5 => decide
  case kB => exact locs rfl
  case c2 => exact rfl
  case c3 => exact rfl
  case c4 => exact rfl
  intro L' h' F' N'
  try dsimp only
  try dsimp only [wsT, List.cons_append, List.nil_append] at N' ND
  try k_fold
  walk_at "m go"
  all_goals (refine lve_ ‹_› ‹_› ?_; intro G'; refine k _ _ _ _ ?_ G' (by first | assumption | exact ND))
  all_goals exact ⟨⟨_, rfl⟩, rfl⟩
theorem sp_hidden2 {w : World} (x : Str) (t u : Tok) (hx : x.length ≤ 1000) : Spec w 900 199 [.str x t, .int 2 u] ([]) (fun v T' => (∃ t, v = .str (Str.ofString "\"" ++ x ++ Str.ofString "\"") t) ∧ T' = []) := by
  intro g s R p loose mean mg mb X Tp G ND k
  revert X; k_fill; intro X
  refine' enter (binds := [(Str.ofString "word", .str x t), (Str.ofString "way", .int 2 u)]) X Tp G ?k6 ?k7 ?k8 ?k9 ?kB ?_ ?c2 ?c3 ?c4 ?c5
  case k6 => k_is
  case k7 => k_is
  case k8 => decide
  case k9 => exact BindsTo.of_eq rfl
  case c5 => decide
  case kB => exact locs rfl
  case c2 => exact rfl
  case c3 => exact rfl
  case c4 => exact rfl
  intro L' h' F' N'
  try dsimp only
  try dsimp only [wsT, List.cons_append, List.nil_append] at N' ND
  try k_fold
  walk_at "m go"
  all_goals (refine lve_ ‹_› ‹_› ?_; intro G'; refine k _ _ _ _ ?_ G' (by first | assumption | exact ND))
  all_goals exact ⟨⟨_, rfl⟩, rfl⟩
end
section
noncomputable section
namespace E_sp_lead0_c
def P (w : World) (a o : Nat) (t1 t2 t3 : Tok) (g : Heap) (s : Shared) (R : RsP) (p : Program) (loose : List Str) (mean : EoV) (mg mb : SoV) : Prop := (1 ≤ a) → (a ≤ 20) → (o ≤ 1) → SpecAt w 900 192 [.int (a : Int) t1, .int (o : Int) t2, .int 0 t3] ([]) (fun v T' => StrV v (lead a o 0) ∧ T' = []) g s R p loose mean mg mb
@[irreducible] def ζ := upick (by walk_at "m ne") ((ucat un8 (ucat un4 un2)) P)
@[irreducible] def w := ζ.1.1.1.1
@[irreducible] def a := ζ.1.1.1.2
@[irreducible] def o := ζ.1.1.2.1
@[irreducible] def g := ζ.1.2.2.1
@[irreducible] def s := ζ.1.2.2.2
theorem core : P w a o ζ.1.1.2.2 ζ.1.2.1.1 ζ.1.2.1.2 g s ζ.2.1.1.1 ζ.2.1.1.2 ζ.2.1.2.1 ζ.2.1.2.2 ζ.2.2.1 ζ.2.2.2 := by
  intro h1 h2 ho X Tp G ND k
  revert X; k_fill; intro X
  refine' enterS (binds := [(Str.ofString "size", .int (a : Int) ζ.1.1.2.2), (Str.ofString "odd", .int (o : Int) ζ.1.2.1.1), (Str.ofString "kind", .int 0 ζ.1.2.1.2)]) X Tp G ?k6 ?k7 ?k8 ?k9 ?kB ?_ ?c2 ?c3 ?c4 ?c5
  case k6 => k_is
  case k7 => k_is
  case k8 => decide
  case k9 => exact BindsTo.of_eq rfl
  case c5 => decide
  case kB => exact locs rfl
  case c2 => exact rfl
  case c3 => exact rfl
  case c4 => exact rfl
  intro h' F' N'
  try dsimp only
  try dsimp only [wsT, List.cons_append, List.nil_append] at N' ND
  try k_fold
  walk_at "m go"
  all_goals (try dsimp only)
  all_goals (refine lve_ ‹_› ‹_› ?_; intro G'; refine k _ _ _ _ ?hP G' (by first | assumption | exact ND))
  all_goals (refine ⟨strV ?_, rfl⟩)
  all_goals (simp only [of_tab, of_sp, of_sptab, of_dottab, tx_mul, flat1, tx_append, show ((a : Int) - (o : Int)).toNat = a - o by lia, show ((a : Int) + 2 * (o : Int)).toNat = a + 2 * o by lia]; rfl)
end E_sp_lead0_c
end
theorem sp_lead0_c : ∀ {w a o t1 t2 t3 g s R p loose mean mg mb}, E_sp_lead0_c.P w a o t1 t2 t3 g s R p loose mean mg mb := fun {w a o t1 t2 t3 g s R p loose mean mg mb} => by with_unfolding_all exact pk (c := E_sp_lead0_c.ζ) rfl E_sp_lead0_c.core ((((w, a), (o, t1)), ((t2, t3), (g, s))), (((R, p), (loose, mean)), (mg, mb)))
theorem sp_lead0 {w : World} (a o : Nat) (t1 t2 t3 : Tok) (h1 : 1 ≤ a) (h2 : a ≤ 20) (ho : o ≤ 1) : Spec w 900 192 [.int (a : Int) t1, .int (o : Int) t2, .int 0 t3] ([]) (fun v T' => StrV v (lead a o 0) ∧ T' = []) := by
  exact fun g s R p loose mean mg mb => @sp_lead0_c w a o t1 t2 t3 g s R p loose mean mg mb h1 h2 ho
noncomputable section
namespace E_sp_lead1_c
def P (w : World) (a o : Nat) (t1 t2 t3 : Tok) (g : Heap) (s : Shared) (R : RsP) (p : Program) (loose : List Str) (mean : EoV) (mg mb : SoV) : Prop := (1 ≤ a) → (a ≤ 20) → (o ≤ 1) → SpecAt w 900 192 [.int (a : Int) t1, .int (o : Int) t2, .int 1 t3] ([]) (fun v T' => StrV v (lead a o 1) ∧ T' = []) g s R p loose mean mg mb
@[irreducible] def ζ := upick (by walk_at "m ne") ((ucat un8 (ucat un4 un2)) P)
@[irreducible] def w := ζ.1.1.1.1
@[irreducible] def g := ζ.1.2.2.1
@[irreducible] def s := ζ.1.2.2.2
theorem core : P w ζ.1.1.1.2 ζ.1.1.2.1 ζ.1.1.2.2 ζ.1.2.1.1 ζ.1.2.1.2 g s ζ.2.1.1.1 ζ.2.1.1.2 ζ.2.1.2.1 ζ.2.1.2.2 ζ.2.2.1 ζ.2.2.2 := by
  intro h1 h2 ho X Tp G ND k
  revert X; k_fill; intro X
  refine' enterS (binds := [(Str.ofString "size", .int (ζ.1.1.1.2 : Int) ζ.1.1.2.2), (Str.ofString "odd", .int (ζ.1.1.2.1 : Int) ζ.1.2.1.1), (Str.ofString "kind", .int 1 ζ.1.2.1.2)]) X Tp G ?k6 ?k7 ?k8 ?k9 ?kB ?_ ?c2 ?c3 ?c4 ?c5
  case k6 => k_is
  case k7 => k_is
  case k8 => decide
  case k9 => exact BindsTo.of_eq rfl
  case c5 => decide
  case kB => exact locs rfl
  case c2 => exact rfl
  case c3 => exact rfl
  case c4 => exact rfl
  intro h' F' N'
  try dsimp only
  try dsimp only [wsT, List.cons_append, List.nil_append] at N' ND
  try k_fold
  walk_at "m go"
  all_goals (try dsimp only)
  all_goals (refine lve_ ‹_› ‹_› ?_; intro G'; refine k _ _ _ _ ?hP G' (by first | assumption | exact ND))
  all_goals (refine ⟨strV ?_, rfl⟩)
  all_goals (simp only [of_tab, of_sp, of_sptab, of_dottab, tx_mul, flat1, tx_append, show (2 * (ζ.1.1.1.2 : Int) - (ζ.1.1.2.1 : Int)).toNat = 2 * ζ.1.1.1.2 - ζ.1.1.2.1 by lia, Int.toNat_natCast]; rfl)
end E_sp_lead1_c
end
theorem sp_lead1_c : ∀ {w a o t1 t2 t3 g s R p loose mean mg mb}, E_sp_lead1_c.P w a o t1 t2 t3 g s R p loose mean mg mb := fun {w a o t1 t2 t3 g s R p loose mean mg mb} => by with_unfolding_all exact pk (c := E_sp_lead1_c.ζ) rfl E_sp_lead1_c.core ((((w, a), (o, t1)), ((t2, t3), (g, s))), (((R, p), (loose, mean)), (mg, mb)))
theorem sp_lead1 {w : World} (a o : Nat) (t1 t2 t3 : Tok) (h1 : 1 ≤ a) (h2 : a ≤ 20) (ho : o ≤ 1) : Spec w 900 192 [.int (a : Int) t1, .int (o : Int) t2, .int 1 t3] ([]) (fun v T' => StrV v (lead a o 1) ∧ T' = []) := by
  exact fun g s R p loose mean mg mb => @sp_lead1_c w a o t1 t2 t3 g s R p loose mean mg mb h1 h2 ho
end
section
theorem names_item {prog : Program} {w : World} {A : Around} {E : Value → Shared → Prop} {s : Shared} {g : Heap} {L : Addr} {led : List (Addr × Obj)} {l : Addr} {value slice : Expr} {t0 t1 t2 t3 t4 t5 t6 t7 t8 t9 : Tok} {n k : Nat} {u : Tok} {Q : Value → Shared → Prop} (N : News g L s.heap led) (hq : (l, W.listOf [Value.str (Str.ofString "OPTIMIZED") t0, Value.str (Str.ofString "NEWLOCALS") t1, Value.str (Str.ofString "VARARGS") t2, Value.str (Str.ofString "VARKEYWORDS") t3, Value.str (Str.ofString "NESTED") t4, Value.str (Str.ofString "GENERATOR") t5, Value.str (Str.ofString "NOFREE") t6, Value.str (Str.ofString "COROUTINE") t7, Value.str (Str.ofString "ITERABLE_COROUTINE") t8, Value.str (Str.ofString "ASYNC_GENERATOR") t9].toArray n) ∈ led) (h1 : k < 10) (h : ∀ t, Q (.str (Tx (nameL k)) t) s)
    (hs : subscripted slice false (.ref l) (.int (k : Int) u) = operate [.ref l, .int (k : Int) u] (getItem (.ref l) (.int (k : Int) u)) := by with_unfolding_all rfl) :
    wpAny (model prog w) A (subscriptTail value slice (.ref l) (.int (k : Int) u)) Q E s := by
  obtain ⟨t, ht⟩ : ∃ t, [Value.str (Str.ofString "OPTIMIZED") t0, Value.str (Str.ofString "NEWLOCALS") t1, Value.str (Str.ofString "VARARGS") t2, Value.str (Str.ofString "VARKEYWORDS") t3, Value.str (Str.ofString "NESTED") t4, Value.str (Str.ofString "GENERATOR") t5, Value.str (Str.ofString "NOFREE") t6, Value.str (Str.ofString "COROUTINE") t7, Value.str (Str.ofString "ITERABLE_COROUTINE") t8, Value.str (Str.ofString "ASYNC_GENERATOR") t9][k]? = some (.str (Tx (nameL k)) t) := by
    match k, h1 with
    | 0, _ => exact ⟨t0, congrArg (fun x => some (Value.str x t0)) (show Str.ofString "OPTIMIZED" = Tx (nameL 0) by decide +kernel)⟩
    | 1, _ => exact ⟨t1, congrArg (fun x => some (Value.str x t1)) (show Str.ofString "NEWLOCALS" = Tx (nameL 1) by decide +kernel)⟩
    | 2, _ => exact ⟨t2, congrArg (fun x => some (Value.str x t2)) (show Str.ofString "VARARGS" = Tx (nameL 2) by decide +kernel)⟩
    | 3, _ => exact ⟨t3, congrArg (fun x => some (Value.str x t3)) (show Str.ofString "VARKEYWORDS" = Tx (nameL 3) by decide +kernel)⟩
    | 4, _ => exact ⟨t4, congrArg (fun x => some (Value.str x t4)) (show Str.ofString "NESTED" = Tx (nameL 4) by decide +kernel)⟩
    | 5, _ => exact ⟨t5, congrArg (fun x => some (Value.str x t5)) (show Str.ofString "GENERATOR" = Tx (nameL 5) by decide +kernel)⟩
    | 6, _ => exact ⟨t6, congrArg (fun x => some (Value.str x t6)) (show Str.ofString "NOFREE" = Tx (nameL 6) by decide +kernel)⟩
    | 7, _ => exact ⟨t7, congrArg (fun x => some (Value.str x t7)) (show Str.ofString "COROUTINE" = Tx (nameL 7) by decide +kernel)⟩
    | 8, _ => exact ⟨t8, congrArg (fun x => some (Value.str x t8)) (show Str.ofString "ITERABLE_COROUTINE" = Tx (nameL 8) by decide +kernel)⟩
    | 9, _ => exact ⟨t9, congrArg (fun x => some (Value.str x t9)) (show Str.ofString "ASYNC_GENERATOR" = Tx (nameL 9) by decide +kernel)⟩
  exact item_lst N hq (by lia) (by lia) (by rw [Int.toNat_natCast]; exact ht) (h t) hs
theorem hex_cases {P : Nat → Prop} (a : P 10) (b : P 11) (c : P 12) (d : P 13) {k : Nat} (h1 : 10 ≤ k) (h2 : k < 14) : P k := by
  match k, h1, h2 with
  | 10, _, _ => exact a
  | 11, _, _ => exact b
  | 12, _, _ => exact c
  | 13, _, _ => exact d
theorem hex_mul {prog : Program} {w : World} {A : Around} {E : Value → Shared → Prop} {s : Shared} {k : Nat} {t u : Tok} {Q : Value → Shared → Prop} (h1 : 10 ≤ k) (h2 : k < 14) (h : ∀ t' tk, Q (.str (Txt.mul (Str.ofString "0") ((k : Int).fdiv 4)) t') { s with toks := tk }) :
    wpAny (model prog w) A (binaryOp .Mult (.str (Str.ofString "0") t) (.int ((k : Int).fdiv 4) u)) Q E s :=
  SB.mul (mulOk_of 16 1048576 (by decide) (hex_cases (P := fun k => (k : Int).fdiv 4 ≤ _) (by decide) (by decide) (by decide) (by decide) h1 h2) (hex_cases (P := fun k => _ ≤ (k : Int).fdiv 4) (by decide) (by decide) (by decide) (by decide) h1 h2) (by decide) (by decide)) h
theorem hex_add {prog : Program} {w : World} {A : Around} {E : Value → Shared → Prop} {s : Shared} {k : Nat} {t u : Tok} {Q : Value → Shared → Prop} (h1 : 10 ≤ k) (h2 : k < 14) (h : ∀ t' tk, Q (.str (Tx (nameL k)) t') { s with toks := tk }) :
    wpAny (model prog w) A (binaryOp .Add (.str (Str.ofString "0x" ++ Txt.item (Str.ofString "1248") ((k : Int).fmod 4)) t) (.str (Txt.mul (Str.ofString "0") ((k : Int).fdiv 4)) u)) Q E s := by
  refine SB.add (fun t' tk => ?_) (hex_cases (P := fun k => (Str.ofString "0x" ++ Txt.item (Str.ofString "1248") ((k : Int).fmod 4)).length + (Txt.mul (Str.ofString "0") ((k : Int).fdiv 4)).length ≤ sizeLine) (by decide +kernel) (by decide +kernel) (by decide +kernel) (by decide +kernel) h1 h2)
  rw [hex_cases (P := fun k => (Str.ofString "0x" ++ Txt.item (Str.ofString "1248") ((k : Int).fmod 4)) ++ Txt.mul (Str.ofString "0") ((k : Int).fdiv 4) = Tx (nameL k)) (by decide +kernel) (by decide +kernel) (by decide +kernel) (by decide +kernel) h1 h2]
  exact h _ _
noncomputable section
namespace E_sp_lname_c
def P (w : World) (i : Nat) (t1 : Tok) (g : Heap) (s : Shared) (R : RsP) (p : Program) (loose : List Str) (mean : EoV) (mg mb : SoV) : Prop := (i < 14) → SpecAt w 900 178 [.int (i : Int) t1] ([]) (fun v T' => StrV v (nameL i) ∧ T' = []) g s R p loose mean mg mb
@[irreducible] def ζ := upick (by walk_at "m ne") ((ucat un8 (ucat un2 un1)) P)
@[irreducible] def w := ζ.1.1.1.1
@[irreducible] def g := ζ.1.1.2.2
@[irreducible] def s := ζ.1.2.1.1
theorem core : P w ζ.1.1.1.2 ζ.1.1.2.1 g s ζ.1.2.1.2 ζ.1.2.2.1 ζ.1.2.2.2 ζ.2.1.1 ζ.2.1.2 ζ.2.2 := by
  intro h X Tp G ND k
  revert X; k_fill; intro X
  refine' enterS (binds := [(Str.ofString "place", .int (ζ.1.1.1.2 : Int) ζ.1.1.2.1)]) X Tp G ?k6 ?k7 ?k8 ?k9 ?kB ?_ ?c2 ?c3 ?c4 ?c5
  case k6 => k_is
  case k7 => k_is
  case k8 => decide
  case k9 => exact BindsTo.of_eq rfl
  case c5 => decide
  case kB => exact locs rfl
  case c2 => exact rfl
  case c3 => exact rfl
  case c4 => exact rfl
  intro h' F' N'
  try dsimp only
  try dsimp only [wsT, List.cons_append, List.nil_append] at N' ND
  try k_fold
  walk_at "m go"
  all_goals (try dsimp only)
  all_goals (refine lve_take (T := []) ‹_› ‹_› ‹_› (by walk_at "m take") ?_; intro G' ND'; refine k _ _ _ _ ?_ G' ND')
  all_goals (refine ⟨⟨_, rfl⟩, rfl⟩)
end E_sp_lname_c
end
theorem sp_lname_c : ∀ {w i t1 g s R p loose mean mg mb}, E_sp_lname_c.P w i t1 g s R p loose mean mg mb := fun {w i t1 g s R p loose mean mg mb} => by with_unfolding_all exact pk (c := E_sp_lname_c.ζ) rfl E_sp_lname_c.core ((((w, i), (t1, g)), ((s, R), (p, loose))), ((mean, mg), mb))
theorem sp_lname {w : World} (i : Nat) (h : i < 14) (t1 : Tok) : Spec w 900 178 [.int (i : Int) t1] ([]) (fun v T' => StrV v (nameL i) ∧ T' = []) := by
  exact fun g s R p loose mean mg mb => @sp_lname_c w i t1 g s R p loose mean mg mb h
end
section
noncomputable section
namespace E_sp_runs_c
def P (w : World) (l : Addr) (c : Nat) (vs : List Value) (ns : List Int) (g : Heap) (s : Shared) (R : RsP) (p : Program) (loose : List Str) (mean : EoV) (mg mb : SoV) : Prop := (IntsAre vs ns) → (ns.length ≤ 20) → (∀ n ∈ ns, n ≤ (1000 : Nat)) → (∀ n ∈ ns, 0 ≤ n) → SpecAt w 900 204 [.ref l] ([(l, W.listOf vs.toArray c)]) (fun v T' => StrV v (runsL ns) ∧ T' = [(l, W.listOf vs.toArray c)]) g s R p loose mean mg mb
@[irreducible] def ζ := upick (by walk_at "m ne") ((ucat un8 (ucat un4 un1)) P)
@[irreducible] def w := ζ.1.1.1.1
@[irreducible] def g := ζ.1.2.1.2
@[irreducible] def s := ζ.1.2.2.1
theorem core : P w ζ.1.1.1.2 ζ.1.1.2.1 ζ.1.1.2.2 ζ.1.2.1.1 g s ζ.1.2.2.2 ζ.2.1.1.1 ζ.2.1.1.2 ζ.2.1.2.1 ζ.2.1.2.2 ζ.2.2 := by
  intro ia hlen hn h0 X Tp G ND k
  revert X; k_fill; intro X
  refine' enterS (binds := [(Str.ofString "sizes", .ref ζ.1.1.1.2)]) X Tp G ?k6 ?k7 ?k8 ?k9 ?kB ?_ ?c2 ?c3 ?c4 ?c5
  case k6 => k_is
  case k7 => k_is
  case k8 => decide
  case k9 => exact BindsTo.of_eq rfl
  case c5 => decide
  case kB => exact locs rfl
  case c2 => exact rfl
  case c3 => exact rfl
  case c4 => exact rfl
  intro h' F' N'
  try dsimp only
  try dsimp only [wsT, List.cons_append, List.nil_append] at N' ND
  try k_fold
  have hw := runs_size hn hlen (by lia)
  walk_at "m go"
  unfold Halt
  refine comp_list (vs := ζ.1.1.2.2) (c := ζ.1.1.2.1) (J := fun i ys T => TxsAre ys ((ζ.1.2.1.1.take i).map run1) ∧ T = _) (by rfl) ‹_› ‹_› ‹_› (by rw [ia.length]; lia) ⟨.nil, rfl⟩ (fun i ys T j => by rw [j.2]; k_mem) ?_ ?_
  · intro i v ys T I oI C oC D m₂ h₂ tk₂ E₂ hi hv j hC hx F₂ N₂ nd₂
    obtain ⟨hy, rfl⟩ := j
    obtain ⟨k, t', rfl, hk⟩ := ia.at i v hv
    have hk' := hn k (List.mem_of_getElem? hk)
    have hk0 := h0 k (List.mem_of_getElem? hk)
    walk_at "m go"
    (try dsimp only)
    refine TurnC.mk (rest := ?rs) ‹_› ‹_› ‹_› _ ?tk ⟨txs_next hy hk (by simp only [of_sp, of_tab, tx_mul, flat1, tx_append]; rfl), rfl⟩
    case tk => walk_at "m take"
  intro gg ys T j nd D h₃ tk₃ F₃ N₃ o1
  obtain ⟨hy, rfl⟩ := j
  have ND₃ := apart1_of o1 nd
  clear o1 nd
  dsimp only at *
  replace hy := txs_end ia.length hy
  walk_at "m go"
  all_goals (try dsimp only)
  all_goals (refine lve_take (T := [(ζ.1.1.1.2, W.listOf ζ.1.1.2.2.toArray ζ.1.1.2.1)]) ‹_› ‹_› ‹_› (by walk_at "m take") ?_; intro G' ND'; refine k _ _ _ _ ?_ G' ND')
  all_goals exact ⟨strV (by rw [join0]; rfl), rfl⟩
end E_sp_runs_c
end
theorem sp_runs_c : ∀ {w l c vs ns g s R p loose mean mg mb}, E_sp_runs_c.P w l c vs ns g s R p loose mean mg mb := fun {w l c vs ns g s R p loose mean mg mb} => by with_unfolding_all exact pk (c := E_sp_runs_c.ζ) rfl E_sp_runs_c.core ((((w, l), (c, vs)), ((ns, g), (s, R))), (((p, loose), (mean, mg)), mb))
theorem sp_runs {w : World} (l : Addr) (c : Nat) (vs : List Value) (ns : List Int) (ia : IntsAre vs ns) (hlen : ns.length ≤ 20) (hn : ∀ n ∈ ns, n ≤ (1000 : Nat)) (h0 : ∀ n ∈ ns, 0 ≤ n) : Spec w 900 204 [.ref l] ([(l, W.listOf vs.toArray c)]) (fun v T' => StrV v (runsL ns) ∧ T' = [(l, W.listOf vs.toArray c)]) := by
  exact fun g s R p loose mean mg mb => @sp_runs_c w l c vs ns g s R p loose mean mg mb ia hlen hn h0
end
section
theorem sp_column {w : World} (l : Addr) (c : Nat) (vs : List Value) (ns : List Int) (t : Int) (t1 : Tok) (ia : IntsAre vs ns) (hlen : ns.length ≤ 20) (hn : ∀ n ∈ ns, 0 ≤ n ∧ n ≤ 100) (ht : 1 ≤ t) (ht2 : t ≤ 1000) : Spec w 900 209 [.ref l, .int t t1] ([(l, W.listOf vs.toArray c)]) (fun v T' => IntV v (t * (ns.map fun n => n.fdiv t + 1).sum) ∧ T' = [(l, W.listOf vs.toArray c)]) := by
  intro g s R p loose mean mg mb X Tp G ND k
  revert X; k_fill; intro X
  refine' enterC (binds := [(Str.ofString "sizes", .ref l), (Str.ofString "size", .int t t1)]) (cl := fun L' => [(Str.ofString "size", L' + 1)]) X Tp G ND ?k6 ?k7 ?k8 ?k9 ?kB ?kD ?kL ?_ ?c2 ?c3 ?c4
  case k6 => k_is
  case k7 => k_is
  case k8 => decide
  case k9 => exact BindsTo.of_eq rfl
  case kB => exact rfl
  case kD => decide +kernel
  case kL => exact fun _ => rfl
  case c2 => exact rfl
  case c3 => exact rfl
  case c4 => exact rfl
  clear ND
  intro L' h' tk' F' o' d1' N' ND
  (try dsimp only [List.cons_append, List.nil_append] at N' ND)
  try dsimp only
  try k_fold
  walk_at "m go"
  unfold Halt
  refine comp_list (vs := vs) (c := c) (J := fun i ys T => IntsAre ys ((ns.take i).map fun n => n.fdiv t + 1) ∧ T = _) (by rfl) ‹_› ‹_› ‹_› (by rw [ia.length]; lia) ⟨.nil, rfl⟩ (fun i ys T j => by rw [j.2]; k_mem) ?_ ?_
  · intro i v ys T I oI C oC D m₂ h₂ tk₂ E₂ hi hv j hC hx F₂ N₂ nd₂
    obtain ⟨hy, rfl⟩ := j
    obtain ⟨k, t', rfl, hk⟩ := ia.at i v hv
    have hk' := hn k (List.mem_of_getElem? hk)
    walk_at "m go"
    (try dsimp only)
    refine TurnC.mk (rest := ?rs) ‹_› ‹_› ‹_› _ ?tk ⟨ints_next hy hk, rfl⟩
    case tk => walk_at "m take"
  intro gg ys T j nd D h₃ tk₃ F₃ N₃ o1
  obtain ⟨hy, rfl⟩ := j
  have ND₃ := apart1_of o1 nd
  clear o1 nd
  dsimp only at *
  replace hy := ints_end ia hy
  walk_at "m go"
  all_goals (try dsimp only)
  all_goals (refine lve_take (T := [(l, W.listOf vs.toArray c)]) ‹_› ‹_› ‹_› (by walk_at "m take") ?_; intro G' ND'; refine k _ _ _ _ ?_ G' ND')
  all_goals exact ⟨intV rfl, rfl⟩
end
section
noncomputable def wiB : List Stmt := inS 1 (inS 3 progB)
noncomputable def wiSc : Scope := defScope 1 (inS 3 progB)
noncomputable abbrev wiEnv (L : Addr) : Env := envOf (Str.ofString "Whitespace.__init__") wiSc L 55 (.ref 54)
noncomputable abbrev wiV (x lc : Addr) (zb zn znt : Int) (t1 t2 t3 : Tok) : List (Str × Value) := [(Str.ofString "self", Value.ref x), (Str.ofString "S", .str (Str.ofString " ") 304), (Str.ofString "T", .str (Str.ofString "\t") 305), (Str.ofString "nt", .int znt t3), (Str.ofString "n", .int zn t2), (Str.ofString "b", .int zb t1), (Str.ofString "count", .ref lc)]
noncomputable abbrev wiT (w : World) (x dx : Addr) (l : List Nat) (t0 k1 : Tok) (lc : Addr) (vs : List Value) (c : Nat) : List (Addr × Obj) := [(lc, W.listOf vs.toArray c), (x, instObj 100 dx), (dx, dictOf [{ hash := PyData.keyHash w.params (Str.ofString "raw"), key := .str (Str.ofString "raw") k1, val := .str (Tx l) t0 }] 1)]
noncomputable abbrev WiJ (w : World) (x dx : Addr) (l : List Nat) (t0 : Tok) (i : Nat) (V : List (Str × Value)) (T : List (Addr × Obj)) : Prop :=
  ∃ lc c vs t1 t2 t3 k1 zb zn znt, V = wiV x lc zb zn znt t1 t2 t3 ∧ T = wiT w x dx l t0 k1 lc vs c ∧ (zb = (stOf l i).b ∧ zn = (stOf l i).n ∧ znt = (stOf l i).nt) ∧ IntsAre vs (stOf l i).cs ∧ ∀ c ∈ l.take i, isWs c = true
noncomputable section
namespace E_wi_turn
def P (w : World) (g : Heap) (s : Shared) (p : Program) (loose : List Str) (mean : EoV) (mg mb : SoV) (L' : Addr) (Q : FsP) (E : VsP) (m : SoV) (Rr : FsP) (x dx : Addr) (l : List Nat) (t0 : Tok) (i c : Nat) (u : Tok) (lc : Addr) (cc : Nat) (vs : List Value) (t1 t2 t3 k1 : Tok) (zn znt : Int) (I : Addr) (oI : Obj) : Prop := (i < l.length) → (l[i]? = some c) → (l.length ≤ 200) → (zn = (stOf l i).n) → (znt = (stOf l i).nt) → (IntsAre vs (stOf l i).cs) → (∀ c ∈ l.take i, isWs c = true) → ((hd.heap_39 w.params).In g) → (Top p loose mean mg mb g) → (Fr g L' s.heap (over ((Str.ofString "ch", .str (Tx [c]) u) :: wiV x lc ((stOf l i).b : Int) zn znt t1 t2 t3) m)) → (News g L' s.heap ((I, oI) :: wiT w x dx l t0 k1 lc vs cc)) → (Apart (I :: (wiT w x dx l t0 k1 lc vs cc).map (·.1))) → (∀ f s', TurnE g L' I oI (WiJ w x dx l t0 (i + 1)) s Q f s' → Rr f s') → (∀ h tk m V T, WiJ w x dx l t0 i V T → wsOf l = stOf l i → Fr g L' h m → Loc m V → News g L' h T → Apart (T.map (·.1)) → Q .next { s with heap := h, toks := tk }) → wpAny (model Challenge.rw_uc0019_01.row.prog w) ((Lv 900).deeper (wiEnv L')) (execs (inS 4 wiB) (wiEnv L')) Rr E s
@[irreducible] def ζ := upick (by walk_at "m ne") ((ucat un16 (ucat un8 (ucat un4 (ucat un2 un1)))) P)
@[irreducible] def w := ζ.1.1.1.1.1
@[irreducible] def g := ζ.1.1.1.1.2
@[irreducible] def s := ζ.1.1.1.2.1
@[irreducible] def L' := ζ.1.2.1.1.1
@[irreducible] def Q := ζ.1.2.1.1.2
@[irreducible] def E := ζ.1.2.1.2.1
@[irreducible] def m := ζ.1.2.1.2.2
@[irreducible] def l := ζ.1.2.2.2.2
@[irreducible] def i := ζ.2.1.1.1.2
@[irreducible] def lc := ζ.2.1.2.1.1
@[irreducible] def cc := ζ.2.1.2.1.2
@[irreducible] def vs := ζ.2.1.2.2.1
@[irreducible] def t1 := ζ.2.1.2.2.2
@[irreducible] def t2 := ζ.2.2.1.1.1
@[irreducible] def t3 := ζ.2.2.1.1.2
@[irreducible] def k1 := ζ.2.2.1.2.1
@[irreducible] def zn := ζ.2.2.1.2.2
@[irreducible] def znt := ζ.2.2.2.1.1
theorem core : P w g s ζ.1.1.1.2.2 ζ.1.1.2.1.1 ζ.1.1.2.1.2 ζ.1.1.2.2.1 ζ.1.1.2.2.2 L' Q E m ζ.1.2.2.1.1 ζ.1.2.2.1.2 ζ.1.2.2.2.1 l ζ.2.1.1.1.1 i ζ.2.1.1.2.1 ζ.2.1.1.2.2 lc cc vs t1 t2 t3 k1 zn znt ζ.2.2.2.1.2 ζ.2.2.2.2 := by
  intro hi hc hlen hzn hznt hv hw X Tp F N ND hR hB
  revert X; k_fill; intro X
  have hb := ws_bound l i
  have hst := stOf_succ hc
  have hvl := hv.length
  show wpAny _ _ (execs (_ :: _) _) _ _ _
  dsimp only [wiV, wiT, List.map_cons, List.map_nil] at F N ND
  walk_at "m go"
  all_goals (try dsimp only)
  · refine hR _ _ ?_
    refine' turn_next ‹_› ‹_› (by k_dflt assumption) _ _ ⟨_, _, _, _, _, _, _, _, _, _, rfl, rfl, ?heq, ?hi, ?hall⟩ ?l ?tk
    case l => walk_at "m loc"
    case tk => walk_at "m take"
    case hall => exact all_succ hw hc (by have hcc := is_sp ‹_›; rw [hcc]; rfl)
    case hi => have hcc := is_sp ‹_›; rw [hst, hcc]; exact hv
    case heq => have hcc := is_sp ‹_›; rw [hst, hcc]; have hh := ws_sp (stOf l i); lia
  · refine hR _ _ ?_
    refine' turn_next ‹_› ‹_› (by k_dflt assumption) _ _ ⟨_, _, _, _, _, _, _, _, _, _, rfl, rfl, ?heq, ?hi, ?hall⟩ ?l ?tk
    case l => walk_at "m loc"
    case tk => walk_at "m take"
    case hall => exact all_succ hw hc (by have hcc := is_tab ‹_›; rw [hcc]; rfl)
    case hi => rw [hst]; exact ints_cast ‹_› (ws_grow (is_tab ‹_›) ‹_›)
    case heq => have hcc := is_tab ‹_›; rw [hst, hcc]; have hh := ws_tab (stOf l i); lia
  · refine hR _ _ ?_
    refine' turn_next ‹_› ‹_› (by k_dflt assumption) _ _ ⟨_, _, _, _, _, _, _, _, _, _, rfl, rfl, ?heq, ?hi, ?hall⟩ ?l ?tk
    case l => walk_at "m loc"
    case tk => walk_at "m take"
    case hall => exact all_succ hw hc (by have hcc := is_tab ‹_›; rw [hcc]; rfl)
    case hi => rw [hst]; exact ints_cast ‹_› (ws_stay (is_tab ‹_›) ‹_›)
    case heq => have hcc := is_tab ‹_›; rw [hst, hcc]; have hh := ws_tab (stOf l i); lia
  refine hR _ _ ?_
  dsimp only [TurnE]
  have hws := wsOf_at hw (fun d hd => by rw [hc] at hd; injection hd with hd; rw [← hd]; have h1 := not_sp ‹_›; have h2 := not_tab ‹_›; simp [isWs, h1, h2])
  obtain ⟨Nx, ndx⟩ := take2 (rest := [(ζ.2.2.2.1.2, ζ.2.2.2.2)]) ‹_› (by k_dflt assumption) (show TakeAll _ (wiT w ζ.1.2.2.1.2 ζ.1.2.2.2.1 l ζ.2.1.1.1.1 k1 lc vs cc) _ by dsimp only [wiT]; walk_at "m take")
  refine' hB _ _ _ _ _ ⟨lc, cc, vs, t1, t2, t3, k1, _, zn, znt, rfl, rfl, ⟨rfl, hzn, hznt⟩, hv, hw⟩ hws ‹_› ?l Nx ndx
  case l => walk_at "m loc"
end E_wi_turn
end
theorem wi_turn : ∀ {w g s p loose mean mg mb L' Q E m Rr x dx l t0 i c u lc cc vs t1 t2 t3 k1 zn znt I oI}, E_wi_turn.P w g s p loose mean mg mb L' Q E m Rr x dx l t0 i c u lc cc vs t1 t2 t3 k1 zn znt I oI := fun {w g s p loose mean mg mb L' Q E m Rr x dx l t0 i c u lc cc vs t1 t2 t3 k1 zn znt I oI} => by with_unfolding_all exact pk (c := E_wi_turn.ζ) rfl E_wi_turn.core (((((w, g), (s, p)), ((loose, mean), (mg, mb))), (((L', Q), (E, m)), ((Rr, x), (dx, l)))), ((((t0, i), (c, u)), ((lc, cc), (vs, t1))), (((t2, t3), (k1, zn)), ((znt, I), oI))))
noncomputable section
namespace E_wi_end
def P (w : World) (g : Heap) (s : Shared) (p : Program) (loose : List Str) (mean : EoV) (mg mb : SoV) (L' : Addr) (Q : FsP) (E : VsP) (m : SoV) (R : RsP) (x dx : Addr) (l : List Nat) (t0 : Tok) (i : Nat) (lc : Addr) (cc : Nat) (vs : List Value) (t1 t2 t3 k1 : Tok) : Prop := (i ≤ l.length) → (l.length ≤ 200) → (wsOf l = stOf l i) → (IntsAre vs (stOf l i).cs) → ((hd.heap_39 w.params).In g) → (Top p loose mean mg mb g) → (Fr g L' s.heap (over (wiV x lc ((stOf l i).b : Int) ((stOf l i).n : Int) ((stOf l i).nt : Int) t1 t2 t3) m)) → (News g L' s.heap (wiT w x dx l t0 k1 lc vs cc)) → (Apart ((wiT w x dx l t0 k1 lc vs cc).map (·.1))) → (∀ s', Lve g R .none s' → Q .next s') → (∀ v T' h' tk, (v = .none ∧ ∃ d : Ws, d.dx = dx ∧ T' = wsT w x d ∧ WsOk l d) → Gr g h' T' → Apart (T'.map (·.1)) → R (.ok (.ret v)) { s with heap := h', toks := tk }) → wpAny (model Challenge.rw_uc0019_01.row.prog w) ((Lv 900).deeper (wiEnv L')) (execs (wiB.drop 5) (wiEnv L')) Q E s
@[irreducible] def ζ := upick (by walk_at "m ne") ((ucat un16 (ucat un8 un1)) P)
@[irreducible] def w := ζ.1.1.1.1.1
@[irreducible] def g := ζ.1.1.1.1.2
@[irreducible] def s := ζ.1.1.1.2.1
@[irreducible] def L' := ζ.1.2.1.1.1
@[irreducible] def Q := ζ.1.2.1.1.2
@[irreducible] def E := ζ.1.2.1.2.1
@[irreducible] def m := ζ.1.2.1.2.2
@[irreducible] def dx := ζ.1.2.2.2.1
theorem core : P w g s ζ.1.1.1.2.2 ζ.1.1.2.1.1 ζ.1.1.2.1.2 ζ.1.1.2.2.1 ζ.1.1.2.2.2 L' Q E m ζ.1.2.2.1.1 ζ.1.2.2.1.2 dx ζ.1.2.2.2.2 ζ.2.1.1.1.1 ζ.2.1.1.1.2 ζ.2.1.1.2.1 ζ.2.1.1.2.2 ζ.2.1.2.1.1 ζ.2.1.2.1.2 ζ.2.1.2.2.1 ζ.2.1.2.2.2 ζ.2.2 := by
  intro hi hlen hws hv X Tp F N ND hQ k
  revert X; k_fill; intro X
  have hb := ws_bound ζ.1.2.2.2.2 ζ.2.1.1.1.2
  have hvl := hv.length
  show wpAny _ _ (execs (_ :: _) _) _ _ _
  dsimp only [wiV, wiT, List.map_cons, List.map_nil] at F N ND
  walk_at "m go"
  all_goals (try dsimp only)
  refine hQ _ ?_
  refine' lve_take (T := wsT w ζ.1.2.2.1.2 ⟨dx, _, _, _, _, _, _, _, _, _, _, _, _, _, _, _, _, _⟩) ‹_› ‹_› (by k_dflt assumption) ?tk ?_
  case tk => walk_at "m take"
  intro G' ND'
  refine k _ _ _ _ ?_ G' ND'
  refine ⟨rfl, ⟨dx, _, _, _, _, _, _, _, _, _, _, _, _, _, _, _, _, _⟩, rfl, rfl, ⟨?_, by rw [hws], by rw [hws], by rw [hws], ?_⟩⟩
  · rw [hws]; exact hv
  · have hd : ∀ n : Nat, decide ((n : Int) ≤ 1) = decide (n ≤ 1) := fun n => by simp; lia
    rw [hws]; exact hd _
end E_wi_end
end
theorem wi_end : ∀ {w g s p loose mean mg mb L' Q E m R x dx l t0 i lc cc vs t1 t2 t3 k1}, E_wi_end.P w g s p loose mean mg mb L' Q E m R x dx l t0 i lc cc vs t1 t2 t3 k1 := fun {w g s p loose mean mg mb L' Q E m R x dx l t0 i lc cc vs t1 t2 t3 k1} => by with_unfolding_all exact pk (c := E_wi_end.ζ) rfl E_wi_end.core (((((w, g), (s, p)), ((loose, mean), (mg, mb))), (((L', Q), (E, m)), ((R, x), (dx, l)))), ((((t0, i), (lc, cc)), ((vs, t1), (t2, t3))), k1))
noncomputable section
namespace E_sp_init_c
def P (w : World) (x dx : Addr) (l : List Nat) (t0 : Tok) (g : Heap) (s : Shared) (R : RsP) (p : Program) (loose : List Str) (mean : EoV) (mg mb : SoV) : Prop := (∀ c ∈ l, c < 128) → (l.length ≤ 200) → SpecAt w 900 55 [.ref x, .str (Tx l) t0] ([(x, instObj 100 dx), (dx, dictOf [] 0)]) (fun v T' => v = .none ∧ ∃ d : Ws, d.dx = dx ∧ T' = wsT w x d ∧ WsOk l d) g s R p loose mean mg mb
@[irreducible] def ζ := upick (by walk_at "m ne") ((ucat un8 (ucat un4 un1)) P)
@[irreducible] def w := ζ.1.1.1.1
@[irreducible] def l := ζ.1.1.2.2
@[irreducible] def g := ζ.1.2.1.2
@[irreducible] def s := ζ.1.2.2.1
theorem core : P w ζ.1.1.1.2 ζ.1.1.2.1 l ζ.1.2.1.1 g s ζ.1.2.2.2 ζ.2.1.1.1 ζ.2.1.1.2 ζ.2.1.2.1 ζ.2.1.2.2 ζ.2.2 := by
  intro hl hlen X Tp G ND k
  revert X; k_fill; intro X
  refine' enterS (binds := [(Str.ofString "self", .ref ζ.1.1.1.2), (Str.ofString "ws", .str (Tx l) ζ.1.2.1.1)]) X Tp G ?k6 ?k7 ?k8 ?k9 ?kB ?_ ?c2 ?c3 ?c4 ?c5
  case k6 => k_is
  case k7 => k_is
  case k8 => decide
  case k9 => exact BindsTo.of_eq rfl
  case c5 => decide
  case kB => exact locs rfl
  case c2 => exact rfl
  case c3 => exact rfl
  case c4 => exact rfl
  intro h' F' N'
  try dsimp only
  try dsimp only [wsT, List.cons_append, List.nil_append] at N' ND
  try k_fold
  walk_at "m go"
  walk_at "m for"
  walk_at "m go"
  have fin : ∀ (s₀ : Shared) (E' : Value → Shared → Prop) i m V T, i ≤ l.length → WiJ w ζ.1.1.1.2 ζ.1.1.2.1 l ζ.1.2.1.1 i V T → wsOf l = stOf l i → Fr g s.heap.objs.size s₀.heap (over V m) → News g s.heap.objs.size s₀.heap T → Apart (T.map (·.1)) → s₀ = { s with heap := s₀.heap, toks := s₀.toks } → wpAny (model Challenge.rw_uc0019_01.row.prog w) ((Lv 900).deeper (wiEnv s.heap.objs.size)) (execs (wiB.drop 5) (wiEnv s.heap.objs.size)) qk E' s₀ := by
    intro s₀ E' i m V T hi j hws F N nd e
    obtain ⟨lc, cc, vs, t1, t2, t3, k1, zb, zn, znt, rfl, rfl, ⟨rfl, rfl, rfl⟩, hv, hw⟩ := j
    refine wi_end hi hlen hws hv X Tp F N nd (fun _ h => h) (fun v T' h' tk hp G' n' => ?_)
    rw [e]
    exact k v T' h' tk hp G' n'
  refine' for_str (L := s.heap.objs.size) (l := l) (J := WiJ w ζ.1.1.1.2 ζ.1.1.2.1 l ζ.1.2.1.1) (V₀ := _) (by rfl) hl (by rfl) (by rfl) (by rfl) ‹_› ?lc ‹_› ‹_› ⟨_, _, [], _, _, _, _, _, _, _, rfl, rfl, ⟨rfl, rfl, rfl⟩, .nil, by simp⟩ ?tk ?_ ?_
  case lc => walk_at "m loc"
  case tk => walk_at "m take"
  · intro i c u m V T h₁ tk₁ I oI E' hi hc j F₁ N₁ nd₁
    obtain ⟨lc, cc, vs, t1, t2, t3, k1, zb, zn, znt, rfl, rfl, ⟨rfl, hzn, hznt⟩, hv, hw⟩ := j
    exact wi_turn hi hc hlen hzn hznt hv hw X Tp F₁ N₁ nd₁ (fun _ _ z => z) (fun h tk m V T j hws F l N nd => fin { s with heap := h, toks := tk } _ i m V T (Nat.le_of_lt hi) j hws (fr_loc F l) N nd rfl)
  · intro m V T h₁ tk₁ E' j F₁ N₁ nd₁
    obtain ⟨lc, cc, vs, t1, t2, t3, k1, zb, zn, znt, hV, hT, hz, hv, hw⟩ := id j
    walk1
    exact fin { s with heap := h₁, toks := tk₁ } _ l.length m V T (Nat.le_refl _) j (wsOf_at hw (fun d hd => by simp at hd)) F₁ N₁ nd₁ rfl
end E_sp_init_c
end
theorem sp_init_c : ∀ {w x dx l t0 g s R p loose mean mg mb}, E_sp_init_c.P w x dx l t0 g s R p loose mean mg mb := fun {w x dx l t0 g s R p loose mean mg mb} => by with_unfolding_all exact pk (c := E_sp_init_c.ζ) rfl E_sp_init_c.core ((((w, x), (dx, l)), ((t0, g), (s, R))), (((p, loose), (mean, mg)), mb))
theorem sp_init {w : World} (x dx : Addr) (l : List Nat) (t0 : Tok) (hl : ∀ c ∈ l, c < 128) (hlen : l.length ≤ 200) : Spec w 900 55 [.ref x, .str (Tx l) t0] ([(x, instObj 100 dx), (dx, dictOf [] 0)]) (fun v T' => v = .none ∧ ∃ d : Ws, d.dx = dx ∧ T' = wsT w x d ∧ WsOk l d) := by
  exact fun g s R p loose mean mg mb => @sp_init_c w x dx l t0 g s R p loose mean mg mb hl hlen
end
section
noncomputable section
namespace E_sp_longest_c
def P (w : World) (x dx nm ct : Addr) (raw : Str) (n nt b : Int) (simple : Bool) (vs : List Value) (k1 k2 k3 k4 k5 k6 k7 k8 k9 : Tok) (cs : List Int) (g : Heap) (s : Shared) (R : RsP) (p : Program) (loose : List Str) (mean : EoV) (mg mb : SoV) : Prop := (IntsAre vs cs) → (cs.length ≤ 300) → (0 ≤ b) → (b ≤ 300) → SpecAt w 900 62 [.ref x] (wsT w x (⟨dx, nm, ct, raw, n, nt, b, simple, vs, k1, k2, k3, k4, k5, k6, k7, k8, k9⟩ : Ws)) (fun v T' => IntV v (longB b cs.length) ∧ T' = wsT w x (⟨dx, nm, ct, raw, n, nt, b, simple, vs, k1, k2, k3, k4, k5, k6, k7, k8, k9⟩ : Ws)) g s R p loose mean mg mb
@[irreducible] def ζ := upick (by walk_at "m ne") ((ucat un16 (ucat un8 (ucat un4 un1))) P)
@[irreducible] def w := ζ.1.1.1.1.1
@[irreducible] def dx := ζ.1.1.1.2.1
@[irreducible] def nm := ζ.1.1.1.2.2
@[irreducible] def ct := ζ.1.1.2.1.1
@[irreducible] def raw := ζ.1.1.2.1.2
@[irreducible] def n := ζ.1.1.2.2.1
@[irreducible] def nt := ζ.1.1.2.2.2
@[irreducible] def b := ζ.1.2.1.1.1
@[irreducible] def simple := ζ.1.2.1.1.2
@[irreducible] def vs := ζ.1.2.1.2.1
@[irreducible] def k1 := ζ.1.2.1.2.2
@[irreducible] def k2 := ζ.1.2.2.1.1
@[irreducible] def k3 := ζ.1.2.2.1.2
@[irreducible] def k4 := ζ.1.2.2.2.1
@[irreducible] def k5 := ζ.1.2.2.2.2
@[irreducible] def k6 := ζ.2.1.1.1.1
@[irreducible] def k7 := ζ.2.1.1.1.2
@[irreducible] def k8 := ζ.2.1.1.2.1
@[irreducible] def k9 := ζ.2.1.1.2.2
@[irreducible] def g := ζ.2.1.2.1.2
@[irreducible] def s := ζ.2.1.2.2.1
theorem core : P w ζ.1.1.1.1.2 dx nm ct raw n nt b simple vs k1 k2 k3 k4 k5 k6 k7 k8 k9 ζ.2.1.2.1.1 g s ζ.2.1.2.2.2 ζ.2.2.1.1.1 ζ.2.2.1.1.2 ζ.2.2.1.2.1 ζ.2.2.1.2.2 ζ.2.2.2 := by
  intro ia hlen hb0 hb X Tp G ND k
  have hvl := ia.length
  revert X; k_fill; intro X
  refine' enterS (binds := [(Str.ofString "self", .ref ζ.1.1.1.1.2)]) X Tp G ?k6 ?k7 ?k8 ?k9 ?kB ?_ ?c2 ?c3 ?c4 ?c5
  case k6 => k_is
  case k7 => k_is
  case k8 => decide
  case k9 => exact BindsTo.of_eq rfl
  case c5 => decide
  case kB => exact locs rfl
  case c2 => exact rfl
  case c3 => exact rfl
  case c4 => exact rfl
  intro h' F' N'
  try dsimp only
  try dsimp only [wsT, List.cons_append, List.nil_append] at N' ND
  try k_fold
  walk_at "m go"
  all_goals (try dsimp only)
  all_goals (refine lve_take (T := wsT w ζ.1.1.1.1.2 ⟨dx, nm, ct, raw, n, nt, b, simple, vs, k1, k2, k3, k4, k5, k6, k7, k8, k9⟩) ‹_› ‹_› ‹_› (by walk_at "m take") ?_; intro G' ND'; refine k _ _ _ _ ?_ G' ND')
  all_goals exact ⟨intV (by rw [hvl]; rfl), rfl⟩
end E_sp_longest_c
end
theorem sp_longest_c : ∀ {w x dx nm ct raw n nt b simple vs k1 k2 k3 k4 k5 k6 k7 k8 k9 cs g s R p loose mean mg mb}, E_sp_longest_c.P w x dx nm ct raw n nt b simple vs k1 k2 k3 k4 k5 k6 k7 k8 k9 cs g s R p loose mean mg mb := fun {w x dx nm ct raw n nt b simple vs k1 k2 k3 k4 k5 k6 k7 k8 k9 cs g s R p loose mean mg mb} => by with_unfolding_all exact pk (c := E_sp_longest_c.ζ) rfl E_sp_longest_c.core (((((w, x), (dx, nm)), ((ct, raw), (n, nt))), (((b, simple), (vs, k1)), ((k2, k3), (k4, k5)))), ((((k6, k7), (k8, k9)), ((cs, g), (s, R))), (((p, loose), (mean, mg)), mb)))
theorem sp_longest {w : World} (x : Addr) (d : Ws) (cs : List Int) (ia : IntsAre d.vs cs) (hlen : cs.length ≤ 300) (hb0 : 0 ≤ d.b) (hb : d.b ≤ 300) : Spec w 900 62 [.ref x] (wsT w x d) (fun v T' => IntV v (longB d.b cs.length) ∧ T' = wsT w x d) := by
  obtain ⟨dx, nm, ct, raw, n, nt, b, simple, vs, k1, k2, k3, k4, k5, k6, k7, k8, k9⟩ := d
  exact fun g s R p loose mean mg mb => @sp_longest_c w x dx nm ct raw n nt b simple vs k1 k2 k3 k4 k5 k6 k7 k8 k9 cs g s R p loose mean mg mb ia hlen hb0 hb
end
section
theorem mx_le {a b : Int} (h : 0 ≤ a ∧ a ≤ 300) (k : 0 ≤ b ∧ b ≤ 300) : 0 ≤ (if b > a then b else a) ∧ (if b > a then b else a) ≤ 300 := by split <;> assumption
noncomputable section
namespace E_sp_indent_c
def P (w : World) (x dx nm ct : Addr) (raw : Str) (n nt b : Int) (simple : Bool) (vs : List Value) (k1 k2 k3 k4 k5 k6 k7 k8 k9 : Tok) (cs : List Int) (ts : Nat) (t0 : Tok) (g : Heap) (s : Shared) (R : RsP) (p : Program) (loose : List Str) (mean : EoV) (mg mb : SoV) : Prop := (IntsAre vs cs) → (cs.length ≤ 300) → (0 ≤ b) → (b ≤ 300) → (1 ≤ ts) → (ts ≤ 400) → SpecAt w 900 69 [.ref x, .int (ts : Int) t0] (wsT w x (⟨dx, nm, ct, raw, n, nt, b, simple, vs, k1, k2, k3, k4, k5, k6, k7, k8, k9⟩ : Ws)) (fun v T' => IntV v (ilB ts b nt cs) ∧ T' = wsT w x (⟨dx, nm, ct, raw, n, nt, b, simple, vs, k1, k2, k3, k4, k5, k6, k7, k8, k9⟩ : Ws)) g s R p loose mean mg mb
@[irreducible] def ζ := upick (by walk_at "m ne") ((ucat un16 (ucat un8 (ucat un4 (ucat un2 un1)))) P)
@[irreducible] def w := ζ.1.1.1.1.1
@[irreducible] def x := ζ.1.1.1.1.2
@[irreducible] def dx := ζ.1.1.1.2.1
@[irreducible] def nm := ζ.1.1.1.2.2
@[irreducible] def ct := ζ.1.1.2.1.1
@[irreducible] def raw := ζ.1.1.2.1.2
@[irreducible] def n := ζ.1.1.2.2.1
@[irreducible] def nt := ζ.1.1.2.2.2
@[irreducible] def b := ζ.1.2.1.1.1
@[irreducible] def simple := ζ.1.2.1.1.2
@[irreducible] def vs := ζ.1.2.1.2.1
@[irreducible] def k1 := ζ.1.2.1.2.2
@[irreducible] def k2 := ζ.1.2.2.1.1
@[irreducible] def k3 := ζ.1.2.2.1.2
@[irreducible] def k4 := ζ.1.2.2.2.1
@[irreducible] def k5 := ζ.1.2.2.2.2
@[irreducible] def k6 := ζ.2.1.1.1.1
@[irreducible] def k7 := ζ.2.1.1.1.2
@[irreducible] def k8 := ζ.2.1.1.2.1
@[irreducible] def k9 := ζ.2.1.1.2.2
@[irreducible] def cs := ζ.2.1.2.1.1
@[irreducible] def ts := ζ.2.1.2.1.2
@[irreducible] def g := ζ.2.1.2.2.2
@[irreducible] def s := ζ.2.2.1.1.1
theorem core : P w x dx nm ct raw n nt b simple vs k1 k2 k3 k4 k5 k6 k7 k8 k9 cs ts ζ.2.1.2.2.1 g s ζ.2.2.1.1.2 ζ.2.2.1.2.1 ζ.2.2.1.2.2 ζ.2.2.2.1.1 ζ.2.2.2.1.2 ζ.2.2.2.2 := by
  intro ia hlen hb0 hb h1 h2 X Tp G ND k
  have hvl := ia.length
  revert X; k_fill; intro X
  refine' enterS (binds := [(Str.ofString "self", .ref x), (Str.ofString "tabsize", .int (ts : Int) ζ.2.1.2.2.1)]) X Tp G ?k6 ?k7 ?k8 ?k9 ?kB ?_ ?c2 ?c3 ?c4 ?c5
  case k6 => k_is
  case k7 => k_is
  case k8 => decide
  case k9 => exact BindsTo.of_eq rfl
  case c5 => decide
  case kB => exact locs rfl
  case c2 => exact rfl
  case c3 => exact rfl
  case c4 => exact rfl
  intro h' F' N'
  try dsimp only
  try dsimp only [wsT, List.cons_append, List.nil_append] at N' ND
  try k_fold
  walk_at "m go"
  walk_at "m for"
  walk_at "m go"
  refine' for_rangeT (L := s.heap.objs.size) (n := cs.length - ts) (J := fun j V T => ∃ zi ti, V = [(Str.ofString "self", Value.ref x), (Str.ofString "tabsize", .int (ts : Int) ζ.2.1.2.2.1), (Str.ofString "count", .ref ct), (Str.ofString "trailing", .int b k9), (Str.ofString "il", .int zi ti)] ∧ T = wsT w x ⟨dx, nm, ct, raw, n, nt, b, simple, vs, k1, k2, k3, k4, k5, k6, k7, k8, k9⟩ ∧ zi = ilTo ts cs j) (V₀ := _) (by rfl) ‹_› ?hsm ?hn (by rfl) (by rfl) (by rfl) ‹_› ?lc ‹_› (by k_dflt assumption) ⟨_, _, rfl, rfl, rfl⟩ ?tk ?_ ?_
  case hsm => exact rg_small (by lia) (by lia) (by lia) (by lia)
  case hn => exact rg_size (by split <;> lia)
  case lc => walk_at "m loc"
  case tk => walk_at "m take"
  · intro i t m V T h₁ tk₁ I oI E' hi j F₁ N₁ nd₁
    obtain ⟨zi, ti, rfl, rfl, hz⟩ := j
    dsimp only [wsT] at N₁ nd₁
    obtain ⟨hf0, hf1⟩ := il_fac h1 (show i ≤ 400 by lia)
    walk_at "m go"
    all_goals (try dsimp only)
    refine' turn_next ‹_› ‹_› (by k_dflt assumption) _ _ ⟨_, _, rfl, rfl, ?heq⟩ ?l ?tk
    case l => walk_at "m loc"
    case tk => walk_at "m take"
    case heq => rw [hz, ilTo, show ((ts : Int) + (i : Int) * 1).toNat = ts + i by lia]
  · intro m V T h₁ tk₁ E' j F₁ N₁ nd₁
    obtain ⟨zi, ti, rfl, rfl, hz⟩ := j
    dsimp only [wsT] at N₁ nd₁
    walk_at "m go"
    refine' lve_take (T := wsT w x ⟨dx, nm, ct, raw, n, nt, b, simple, vs, k1, k2, k3, k4, k5, k6, k7, k8, k9⟩) ‹_› ‹_› (by k_dflt assumption) ?tk ?_
    case tk => walk_at "m take"
    intro G' ND'
    refine k _ _ _ _ ⟨intV (by rw [hz]; rfl), rfl⟩ G' ND'
end E_sp_indent_c
end
theorem sp_indent_c : ∀ {w x dx nm ct raw n nt b simple vs k1 k2 k3 k4 k5 k6 k7 k8 k9 cs ts t0 g s R p loose mean mg mb}, E_sp_indent_c.P w x dx nm ct raw n nt b simple vs k1 k2 k3 k4 k5 k6 k7 k8 k9 cs ts t0 g s R p loose mean mg mb := fun {w x dx nm ct raw n nt b simple vs k1 k2 k3 k4 k5 k6 k7 k8 k9 cs ts t0 g s R p loose mean mg mb} => by with_unfolding_all exact pk (c := E_sp_indent_c.ζ) rfl E_sp_indent_c.core (((((w, x), (dx, nm)), ((ct, raw), (n, nt))), (((b, simple), (vs, k1)), ((k2, k3), (k4, k5)))), ((((k6, k7), (k8, k9)), ((cs, ts), (t0, g))), (((s, R), (p, loose)), ((mean, mg), mb))))
theorem sp_indent {w : World} (x : Addr) (d : Ws) (cs : List Int) (ia : IntsAre d.vs cs) (hlen : cs.length ≤ 300) (hb0 : 0 ≤ d.b) (hb : d.b ≤ 300) (ts : Nat) (t0 : Tok) (h1 : 1 ≤ ts) (h2 : ts ≤ 400) : Spec w 900 69 [.ref x, .int (ts : Int) t0] (wsT w x d) (fun v T' => IntV v (ilB ts d.b d.nt cs) ∧ T' = wsT w x d) := by
  obtain ⟨dx, nm, ct, raw, n, nt, b, simple, vs, k1, k2, k3, k4, k5, k6, k7, k8, k9⟩ := d
  exact fun g s R p loose mean mg mb => @sp_indent_c w x dx nm ct raw n nt b simple vs k1 k2 k3 k4 k5 k6 k7 k8 k9 cs ts t0 g s R p loose mean mg mb ia hlen hb0 hb h1 h2
end
section
noncomputable section
namespace E_sp_less_c
def P (w : World) (x y dx nm ct : Addr) (raw : Str) (n nt b : Int) (simple : Bool) (vs : List Value) (k1 k2 k3 k4 k5 k6 k7 k8 k9 : Tok) (dx' nm' ct' : Addr) (raw' : Str) (n' nt' b' : Int) (simple' : Bool) (vs' : List Value) (k1' k2' k3' k4' k5' k6' k7' k8' k9' : Tok) (cs es : List Int) (g : Heap) (s : Shared) (R : RsP) (p : Program) (loose : List Str) (mean : EoV) (mg mb : SoV) : Prop := (IntsAre vs cs) → (IntsAre vs' es) → (cs.length ≤ 300) → (es.length ≤ 300) → (0 ≤ b) → (b ≤ 300) → (0 ≤ b') → (b' ≤ 300) → SpecAt w 880 90 [.ref x, .ref y] (wsT w x (⟨dx, nm, ct, raw, n, nt, b, simple, vs, k1, k2, k3, k4, k5, k6, k7, k8, k9⟩ : Ws) ++ wsT w y (⟨dx', nm', ct', raw', n', nt', b', simple', vs', k1', k2', k3', k4', k5', k6', k7', k8', k9'⟩ : Ws)) (fun v T' => v = .bool (lessB n nt b simple cs n' nt' b' simple' es) ∧ T' = wsT w x (⟨dx, nm, ct, raw, n, nt, b, simple, vs, k1, k2, k3, k4, k5, k6, k7, k8, k9⟩ : Ws) ++ wsT w y (⟨dx', nm', ct', raw', n', nt', b', simple', vs', k1', k2', k3', k4', k5', k6', k7', k8', k9'⟩ : Ws)) g s R p loose mean mg mb
@[irreducible] def ζ := upick (by walk_at "m ne") ((ucat un32 (ucat un16 un1)) P)
@[irreducible] def w := ζ.1.1.1.1.1.1
@[irreducible] def x := ζ.1.1.1.1.1.2
@[irreducible] def y := ζ.1.1.1.1.2.1
@[irreducible] def dx := ζ.1.1.1.1.2.2
@[irreducible] def nm := ζ.1.1.1.2.1.1
@[irreducible] def ct := ζ.1.1.1.2.1.2
@[irreducible] def raw := ζ.1.1.1.2.2.1
@[irreducible] def n := ζ.1.1.1.2.2.2
@[irreducible] def nt := ζ.1.1.2.1.1.1
@[irreducible] def b := ζ.1.1.2.1.1.2
@[irreducible] def simple := ζ.1.1.2.1.2.1
@[irreducible] def vs := ζ.1.1.2.1.2.2
@[irreducible] def k1 := ζ.1.1.2.2.1.1
@[irreducible] def k2 := ζ.1.1.2.2.1.2
@[irreducible] def k3 := ζ.1.1.2.2.2.1
@[irreducible] def k4 := ζ.1.1.2.2.2.2
@[irreducible] def k5 := ζ.1.2.1.1.1.1
@[irreducible] def k6 := ζ.1.2.1.1.1.2
@[irreducible] def k7 := ζ.1.2.1.1.2.1
@[irreducible] def k8 := ζ.1.2.1.1.2.2
@[irreducible] def k9 := ζ.1.2.1.2.1.1
@[irreducible] def dx' := ζ.1.2.1.2.1.2
@[irreducible] def nm' := ζ.1.2.1.2.2.1
@[irreducible] def ct' := ζ.1.2.1.2.2.2
@[irreducible] def raw' := ζ.1.2.2.1.1.1
@[irreducible] def n' := ζ.1.2.2.1.1.2
@[irreducible] def nt' := ζ.1.2.2.1.2.1
@[irreducible] def b' := ζ.1.2.2.1.2.2
@[irreducible] def simple' := ζ.1.2.2.2.1.1
@[irreducible] def vs' := ζ.1.2.2.2.1.2
@[irreducible] def k1' := ζ.1.2.2.2.2.1
@[irreducible] def k2' := ζ.1.2.2.2.2.2
@[irreducible] def k3' := ζ.2.1.1.1.1.1
@[irreducible] def k4' := ζ.2.1.1.1.1.2
@[irreducible] def k5' := ζ.2.1.1.1.2.1
@[irreducible] def k6' := ζ.2.1.1.1.2.2
@[irreducible] def k7' := ζ.2.1.1.2.1.1
@[irreducible] def k8' := ζ.2.1.1.2.1.2
@[irreducible] def k9' := ζ.2.1.1.2.2.1
@[irreducible] def cs := ζ.2.1.1.2.2.2
@[irreducible] def es := ζ.2.1.2.1.1.1
@[irreducible] def g := ζ.2.1.2.1.1.2
@[irreducible] def s := ζ.2.1.2.1.2.1
theorem core : P w x y dx nm ct raw n nt b simple vs k1 k2 k3 k4 k5 k6 k7 k8 k9 dx' nm' ct' raw' n' nt' b' simple' vs' k1' k2' k3' k4' k5' k6' k7' k8' k9' cs es g s ζ.2.1.2.1.2.2 ζ.2.1.2.2.1.1 ζ.2.1.2.2.1.2 ζ.2.1.2.2.2.1 ζ.2.1.2.2.2.2 ζ.2.2 := by
  intro ia ie hlen hlen2 hb0 hb hc0 hc X Tp G ND k
  have hvl := ia.length
  have hvl2 := ie.length
  have v1 : n' ≤ n → Value.bool false = Value.bool (lessB n nt b simple cs n' nt' b' simple' es) := fun h => by rw [lessB, if_pos h]
  have v2 : ¬ n' ≤ n → simple = true → simple' = true → Value.bool (decide (nt ≤ nt')) = Value.bool (lessB n nt b simple cs n' nt' b' simple' es) := fun h e1 e2 => by rw [lessB, if_neg h, e1, e2]; rfl
  have sFL : simple = false → (simple && simple') = false := fun h => by rw [h]; rfl
  have sFR : simple' = false → (simple && simple') = false := fun h => by rw [h, Bool.and_false]
  have v3 : ¬ n' ≤ n → (simple && simple') = false → ∀ i, i < (mx (longB b cs.length) (longB b' es.length)).toNat → (!decide (ilB (2 + i) b' nt' es ≤ ilB (2 + i) b nt cs)) = false → Value.bool false = Value.bool (lessB n nt b simple cs n' nt' b' simple' es) := fun h e1 i hi e2 => by
    rw [lessB, if_neg h, e1, if_neg (by decide), range_all_not hi e2]
  have v4 : ¬ n' ≤ n → (simple && simple') = false → (∀ i, i < (mx (longB b cs.length) (longB b' es.length)).toNat → (!decide (ilB (2 + i) b' nt' es ≤ ilB (2 + i) b nt cs)) = true) → Value.bool true = Value.bool (lessB n nt b simple cs n' nt' b' simple' es) := fun h e1 e2 => by
    rw [lessB, if_neg h, e1, if_neg (by decide), range_all_take e2]
  revert X; k_fill; intro X
  refine' enterS (binds := [(Str.ofString "self", .ref x), (Str.ofString "other", .ref y)]) X Tp G ?k6 ?k7 ?k8 ?k9 ?kB ?_ ?c2 ?c3 ?c4 ?c5
  case k6 => k_is
  case k7 => k_is
  case k8 => decide
  case k9 => exact BindsTo.of_eq rfl
  case c5 => decide
  case kB => exact locs rfl
  case c2 => exact rfl
  case c3 => exact rfl
  case c4 => exact rfl
  intro h' F' N'
  try dsimp only
  try dsimp only [wsT, List.cons_append, List.nil_append] at N' ND
  try k_fold
  walk_at "m go"
  · dsimp only
    refine' lve_take (T := wsT w x ⟨dx, nm, ct, raw, n, nt, b, simple, vs, k1, k2, k3, k4, k5, k6, k7, k8, k9⟩ ++ wsT w y ⟨dx', nm', ct', raw', n', nt', b', simple', vs', k1', k2', k3', k4', k5', k6', k7', k8', k9'⟩) ‹_› ‹_› (by k_dflt assumption) ?tk ?_
    case tk => walk_at "m take"
    intro G' ND'
    refine k _ _ _ _ ⟨v1 ‹_›, rfl⟩ G' ND'
  · dsimp only
    refine' lve_take (T := wsT w x ⟨dx, nm, ct, raw, n, nt, b, simple, vs, k1, k2, k3, k4, k5, k6, k7, k8, k9⟩ ++ wsT w y ⟨dx', nm', ct', raw', n', nt', b', simple', vs', k1', k2', k3', k4', k5', k6', k7', k8', k9'⟩) ‹_› ‹_› (by k_dflt assumption) ?tk ?_
    case tk => walk_at "m take"
    intro G' ND'
    refine k _ _ _ _ ⟨v2 ‹_› ‹_› ‹_›, rfl⟩ G' ND'
  · have hlx := longB_le hb0 hb hlen
    have hly := longB_le hc0 hc hlen2
    clear v1 v2
    generalize hA : longB b cs.length = LA at *
    generalize hB : longB b' es.length = LB at *
    walk_at "m for"
    walk_at "m go"
    have hN0 : 0 ≤ (if LB > LA then LB else LA) ∧ (if LB > LA then LB else LA) ≤ 300 := mx_le ‹_› ‹_›
    have hN9 : (if LB > LA then LB else LA) = mx LA LB := rfl
    rw [hN9] at hN0
    generalize hN : mx LA LB = NN at *
    refine' for_rangeT (L := s.heap.objs.size) (n := NN.toNat) (J := fun j V T => ∃ zn tn, V = [(Str.ofString "self", Value.ref x), (Str.ofString "other", Value.ref y), (Str.ofString "n", Value.int zn tn)] ∧ T = wsT w x ⟨dx, nm, ct, raw, n, nt, b, simple, vs, k1, k2, k3, k4, k5, k6, k7, k8, k9⟩ ++ wsT w y ⟨dx', nm', ct', raw', n', nt', b', simple', vs', k1', k2', k3', k4', k5', k6', k7', k8', k9'⟩ ∧ ∀ i < j, (!decide (ilB (2 + i) b' nt' es ≤ ilB (2 + i) b nt cs)) = true) (V₀ := _) (by rfl) ‹_› ?hsm ?hn (by rfl) (by rfl) (by rfl) ‹_› ?lc ‹_› (by k_dflt assumption) ⟨_, _, rfl, rfl, by intro i hi; lia⟩ ?tk ?_ ?_
    case hsm => exact rg_small (by lia) (by lia) (by lia) (by lia)
    case hn => exact rg_size (by split <;> lia)
    case lc => walk_at "m loc"
    case tk => walk_at "m take"
    · intro i t m V T h₁ tk₁ I oI E' hi j F₁ N₁ nd₁
      obtain ⟨zn, tn, rfl, rfl, hz⟩ := j
      dsimp only [wsT, List.cons_append, List.nil_append] at N₁ nd₁
      rw [show (2 : Int) + (i : Int) * 1 = ((2 + i : Nat) : Int) by lia] at F₁
      walk_at "m go"
      · dsimp only
        refine' lve_take (T := wsT w x ⟨dx, nm, ct, raw, n, nt, b, simple, vs, k1, k2, k3, k4, k5, k6, k7, k8, k9⟩ ++ wsT w y ⟨dx', nm', ct', raw', n', nt', b', simple', vs', k1', k2', k3', k4', k5', k6', k7', k8', k9'⟩) ‹_› ‹_› (by k_dflt assumption) ?tk ?_
        case tk => walk_at "m take"
        intro G' ND'
        refine k _ _ _ _ ⟨v3 ‹_› (by first | exact sFL ‹_› | exact sFR ‹_›) i hi (by simp; lia), rfl⟩ G' ND'
      · refine' turn_next ‹_› ‹_› (by k_dflt assumption) _ _ ⟨_, _, rfl, rfl, ?heq⟩ ?l ?tk
        case l => walk_at "m loc"
        case tk => walk_at "m take"
        case heq =>
          intro q hq
          rcases Nat.lt_or_ge q i with h' | h'
          · exact hz q h'
          · obtain rfl : q = i := by lia
            simp; lia
    · intro m V T h₁ tk₁ E' j F₁ N₁ nd₁
      obtain ⟨zn, tn, rfl, rfl, hz⟩ := j
      dsimp only [wsT, List.cons_append, List.nil_append] at N₁ nd₁
      walk_at "m go"
      dsimp only
      refine' lve_take (T := wsT w x ⟨dx, nm, ct, raw, n, nt, b, simple, vs, k1, k2, k3, k4, k5, k6, k7, k8, k9⟩ ++ wsT w y ⟨dx', nm', ct', raw', n', nt', b', simple', vs', k1', k2', k3', k4', k5', k6', k7', k8', k9'⟩) ‹_› ‹_› (by k_dflt assumption) ?tk ?_
      case tk => walk_at "m take"
      intro G' ND'
      refine k _ _ _ _ ⟨v4 ‹_› (by first | exact sFL ‹_› | exact sFR ‹_›) (by first | exact hz | rw [hN]; exact hz), rfl⟩ G' ND'
  · have hlx := longB_le hb0 hb hlen
    have hly := longB_le hc0 hc hlen2
    clear v1 v2
    generalize hA : longB b cs.length = LA at *
    generalize hB : longB b' es.length = LB at *
    walk_at "m for"
    walk_at "m go"
    have hN0 : 0 ≤ (if LB > LA then LB else LA) ∧ (if LB > LA then LB else LA) ≤ 300 := mx_le ‹_› ‹_›
    have hN9 : (if LB > LA then LB else LA) = mx LA LB := rfl
    rw [hN9] at hN0
    generalize hN : mx LA LB = NN at *
    refine' for_rangeT (L := s.heap.objs.size) (n := NN.toNat) (J := fun j V T => ∃ zn tn, V = [(Str.ofString "self", Value.ref x), (Str.ofString "other", Value.ref y), (Str.ofString "n", Value.int zn tn)] ∧ T = wsT w x ⟨dx, nm, ct, raw, n, nt, b, simple, vs, k1, k2, k3, k4, k5, k6, k7, k8, k9⟩ ++ wsT w y ⟨dx', nm', ct', raw', n', nt', b', simple', vs', k1', k2', k3', k4', k5', k6', k7', k8', k9'⟩ ∧ ∀ i < j, (!decide (ilB (2 + i) b' nt' es ≤ ilB (2 + i) b nt cs)) = true) (V₀ := _) (by rfl) ‹_› ?hsm ?hn (by rfl) (by rfl) (by rfl) ‹_› ?lc ‹_› (by k_dflt assumption) ⟨_, _, rfl, rfl, by intro i hi; lia⟩ ?tk ?_ ?_
    case hsm => exact rg_small (by lia) (by lia) (by lia) (by lia)
    case hn => exact rg_size (by split <;> lia)
    case lc => walk_at "m loc"
    case tk => walk_at "m take"
    · intro i t m V T h₁ tk₁ I oI E' hi j F₁ N₁ nd₁
      obtain ⟨zn, tn, rfl, rfl, hz⟩ := j
      dsimp only [wsT, List.cons_append, List.nil_append] at N₁ nd₁
      rw [show (2 : Int) + (i : Int) * 1 = ((2 + i : Nat) : Int) by lia] at F₁
      walk_at "m go"
      · dsimp only
        refine' lve_take (T := wsT w x ⟨dx, nm, ct, raw, n, nt, b, simple, vs, k1, k2, k3, k4, k5, k6, k7, k8, k9⟩ ++ wsT w y ⟨dx', nm', ct', raw', n', nt', b', simple', vs', k1', k2', k3', k4', k5', k6', k7', k8', k9'⟩) ‹_› ‹_› (by k_dflt assumption) ?tk ?_
        case tk => walk_at "m take"
        intro G' ND'
        refine k _ _ _ _ ⟨v3 ‹_› (by first | exact sFL ‹_› | exact sFR ‹_›) i hi (by simp; lia), rfl⟩ G' ND'
      · refine' turn_next ‹_› ‹_› (by k_dflt assumption) _ _ ⟨_, _, rfl, rfl, ?heq⟩ ?l ?tk
        case l => walk_at "m loc"
        case tk => walk_at "m take"
        case heq =>
          intro q hq
          rcases Nat.lt_or_ge q i with h' | h'
          · exact hz q h'
          · obtain rfl : q = i := by lia
            simp; lia
    · intro m V T h₁ tk₁ E' j F₁ N₁ nd₁
      obtain ⟨zn, tn, rfl, rfl, hz⟩ := j
      dsimp only [wsT, List.cons_append, List.nil_append] at N₁ nd₁
      walk_at "m go"
      dsimp only
      refine' lve_take (T := wsT w x ⟨dx, nm, ct, raw, n, nt, b, simple, vs, k1, k2, k3, k4, k5, k6, k7, k8, k9⟩ ++ wsT w y ⟨dx', nm', ct', raw', n', nt', b', simple', vs', k1', k2', k3', k4', k5', k6', k7', k8', k9'⟩) ‹_› ‹_› (by k_dflt assumption) ?tk ?_
      case tk => walk_at "m take"
      intro G' ND'
      refine k _ _ _ _ ⟨v4 ‹_› (by first | exact sFL ‹_› | exact sFR ‹_›) (by first | exact hz | rw [hN]; exact hz), rfl⟩ G' ND'
end E_sp_less_c
end
theorem sp_less_c : ∀ {w x y dx nm ct raw n nt b simple vs k1 k2 k3 k4 k5 k6 k7 k8 k9 dx' nm' ct' raw' n' nt' b' simple' vs' k1' k2' k3' k4' k5' k6' k7' k8' k9' cs es g s R p loose mean mg mb}, E_sp_less_c.P w x y dx nm ct raw n nt b simple vs k1 k2 k3 k4 k5 k6 k7 k8 k9 dx' nm' ct' raw' n' nt' b' simple' vs' k1' k2' k3' k4' k5' k6' k7' k8' k9' cs es g s R p loose mean mg mb := fun {w x y dx nm ct raw n nt b simple vs k1 k2 k3 k4 k5 k6 k7 k8 k9 dx' nm' ct' raw' n' nt' b' simple' vs' k1' k2' k3' k4' k5' k6' k7' k8' k9' cs es g s R p loose mean mg mb} => by with_unfolding_all exact pk (c := E_sp_less_c.ζ) rfl E_sp_less_c.core ((((((w, x), (y, dx)), ((nm, ct), (raw, n))), (((nt, b), (simple, vs)), ((k1, k2), (k3, k4)))), ((((k5, k6), (k7, k8)), ((k9, dx'), (nm', ct'))), (((raw', n'), (nt', b')), ((simple', vs'), (k1', k2'))))), (((((k3', k4'), (k5', k6')), ((k7', k8'), (k9', cs))), (((es, g), (s, R)), ((p, loose), (mean, mg)))), mb))
theorem sp_less {w : World} (x y : Addr) (d e : Ws) (cs es : List Int) (ia : IntsAre d.vs cs) (ie : IntsAre e.vs es) (hlen : cs.length ≤ 300) (hlen2 : es.length ≤ 300) (hb0 : 0 ≤ d.b) (hb : d.b ≤ 300) (hc0 : 0 ≤ e.b) (hc : e.b ≤ 300) : Spec w 880 90 [.ref x, .ref y] (wsT w x d ++ wsT w y e) (fun v T' => v = .bool (lessB d.n d.nt d.b d.simple cs e.n e.nt e.b e.simple es) ∧ T' = wsT w x d ++ wsT w y e) := by
  obtain ⟨dx, nm, ct, raw, n, nt, b, simple, vs, k1, k2, k3, k4, k5, k6, k7, k8, k9⟩ := d
  obtain ⟨dx', nm', ct', raw', n', nt', b', simple', vs', k1', k2', k3', k4', k5', k6', k7', k8', k9'⟩ := e
  exact fun g s R p loose mean mg mb => @sp_less_c w x y dx nm ct raw n nt b simple vs k1 k2 k3 k4 k5 k6 k7 k8 k9 dx' nm' ct' raw' n' nt' b' simple' vs' k1' k2' k3' k4' k5' k6' k7' k8' k9' cs es g s R p loose mean mg mb ia ie hlen hlen2 hb0 hb hc0 hc
end
section
theorem eqv_norm (cs es : List Int) (b c : Int) : PyData.eqv (.tuple [.tuple (cs.map .int), .int b]) (.tuple [.tuple (es.map .int), .int c]) = (decide (cs = es) && decide (b = c)) := by
  simp only [PyData.eqv, PyData.eqvAll, ked_eqvAll, Bool.and_true]
  by_cases h : b = c <;> simp [h]
noncomputable section
namespace E_sp_equal_c
def P (w : World) (x y dx nm ct : Addr) (raw : Str) (n nt b : Int) (simple : Bool) (vs : List Value) (k1 k2 k3 k4 k5 k6 k7 k8 k9 : Tok) (dx' nm' ct' : Addr) (raw' : Str) (n' nt' b' : Int) (simple' : Bool) (vs' : List Value) (k1' k2' k3' k4' k5' k6' k7' k8' k9' : Tok) (cs es : List Int) (g : Heap) (s : Shared) (R : RsP) (p : Program) (loose : List Str) (mean : EoV) (mg mb : SoV) : Prop := (IntsAre vs cs) → (IntsAre vs' es) → (cs.length ≤ 300) → (es.length ≤ 300) → (0 ≤ b) → (b ≤ 300) → (0 ≤ b') → (b' ≤ 300) → SpecAt w 880 76 [.ref x, .ref y] (wsT w x (⟨dx, nm, ct, raw, n, nt, b, simple, vs, k1, k2, k3, k4, k5, k6, k7, k8, k9⟩ : Ws) ++ wsT w y (⟨dx', nm', ct', raw', n', nt', b', simple', vs', k1', k2', k3', k4', k5', k6', k7', k8', k9'⟩ : Ws)) (fun v T' => v = .bool (decide (cs = es) && decide (b = b')) ∧ T' = wsT w x (⟨dx, nm, ct, raw, n, nt, b, simple, vs, k1, k2, k3, k4, k5, k6, k7, k8, k9⟩ : Ws) ++ wsT w y (⟨dx', nm', ct', raw', n', nt', b', simple', vs', k1', k2', k3', k4', k5', k6', k7', k8', k9'⟩ : Ws)) g s R p loose mean mg mb
@[irreducible] def ζ := upick (by walk_at "m ne") ((ucat un32 (ucat un16 un1)) P)
@[irreducible] def w := ζ.1.1.1.1.1.1
@[irreducible] def y := ζ.1.1.1.1.2.1
@[irreducible] def dx := ζ.1.1.1.1.2.2
@[irreducible] def nm := ζ.1.1.1.2.1.1
@[irreducible] def ct := ζ.1.1.1.2.1.2
@[irreducible] def raw := ζ.1.1.1.2.2.1
@[irreducible] def n := ζ.1.1.1.2.2.2
@[irreducible] def nt := ζ.1.1.2.1.1.1
@[irreducible] def b := ζ.1.1.2.1.1.2
@[irreducible] def simple := ζ.1.1.2.1.2.1
@[irreducible] def vs := ζ.1.1.2.1.2.2
@[irreducible] def k1 := ζ.1.1.2.2.1.1
@[irreducible] def k2 := ζ.1.1.2.2.1.2
@[irreducible] def k3 := ζ.1.1.2.2.2.1
@[irreducible] def k4 := ζ.1.1.2.2.2.2
@[irreducible] def k5 := ζ.1.2.1.1.1.1
@[irreducible] def k6 := ζ.1.2.1.1.1.2
@[irreducible] def k7 := ζ.1.2.1.1.2.1
@[irreducible] def k8 := ζ.1.2.1.1.2.2
@[irreducible] def k9 := ζ.1.2.1.2.1.1
@[irreducible] def dx' := ζ.1.2.1.2.1.2
@[irreducible] def nm' := ζ.1.2.1.2.2.1
@[irreducible] def ct' := ζ.1.2.1.2.2.2
@[irreducible] def raw' := ζ.1.2.2.1.1.1
@[irreducible] def n' := ζ.1.2.2.1.1.2
@[irreducible] def nt' := ζ.1.2.2.1.2.1
@[irreducible] def b' := ζ.1.2.2.1.2.2
@[irreducible] def simple' := ζ.1.2.2.2.1.1
@[irreducible] def vs' := ζ.1.2.2.2.1.2
@[irreducible] def k1' := ζ.1.2.2.2.2.1
@[irreducible] def k2' := ζ.1.2.2.2.2.2
@[irreducible] def k3' := ζ.2.1.1.1.1.1
@[irreducible] def k4' := ζ.2.1.1.1.1.2
@[irreducible] def k5' := ζ.2.1.1.1.2.1
@[irreducible] def k6' := ζ.2.1.1.1.2.2
@[irreducible] def k7' := ζ.2.1.1.2.1.1
@[irreducible] def k8' := ζ.2.1.1.2.1.2
@[irreducible] def k9' := ζ.2.1.1.2.2.1
@[irreducible] def g := ζ.2.1.2.1.1.2
@[irreducible] def s := ζ.2.1.2.1.2.1
theorem core : P w ζ.1.1.1.1.1.2 y dx nm ct raw n nt b simple vs k1 k2 k3 k4 k5 k6 k7 k8 k9 dx' nm' ct' raw' n' nt' b' simple' vs' k1' k2' k3' k4' k5' k6' k7' k8' k9' ζ.2.1.1.2.2.2 ζ.2.1.2.1.1.1 g s ζ.2.1.2.1.2.2 ζ.2.1.2.2.1.1 ζ.2.1.2.2.1.2 ζ.2.1.2.2.2.1 ζ.2.1.2.2.2.2 ζ.2.2 := by
  intro ia ie hlen hlen2 hb0 hb hc0 hc X Tp G ND k
  have hvl := ia.length
  have hvl2 := ie.length
  revert X; k_fill; intro X
  refine' enterS (binds := [(Str.ofString "self", .ref ζ.1.1.1.1.1.2), (Str.ofString "other", .ref y)]) X Tp G ?k6 ?k7 ?k8 ?k9 ?kB ?_ ?c2 ?c3 ?c4 ?c5
  case k6 => k_is
  case k7 => k_is
  case k8 => decide
  case k9 => exact BindsTo.of_eq rfl
  case c5 => decide
  case kB => exact locs rfl
  case c2 => exact rfl
  case c3 => exact rfl
  case c4 => exact rfl
  intro h' F' N'
  try dsimp only
  try dsimp only [wsT, List.cons_append, List.nil_append] at N' ND
  try k_fold
  walk_at "m go"
  dsimp only
  refine' lve_take (T := wsT w ζ.1.1.1.1.1.2 ⟨dx, nm, ct, raw, n, nt, b, simple, vs, k1, k2, k3, k4, k5, k6, k7, k8, k9⟩ ++ wsT w y ⟨dx', nm', ct', raw', n', nt', b', simple', vs', k1', k2', k3', k4', k5', k6', k7', k8', k9'⟩) ‹_› ‹_› (by k_dflt assumption) ?tk ?_
  case tk => walk_at "m take"
  intro G' ND'
  refine k _ _ _ _ ⟨by dsimp only; rw [eqv_norm], rfl⟩ G' ND'
end E_sp_equal_c
end
theorem sp_equal_c : ∀ {w x y dx nm ct raw n nt b simple vs k1 k2 k3 k4 k5 k6 k7 k8 k9 dx' nm' ct' raw' n' nt' b' simple' vs' k1' k2' k3' k4' k5' k6' k7' k8' k9' cs es g s R p loose mean mg mb}, E_sp_equal_c.P w x y dx nm ct raw n nt b simple vs k1 k2 k3 k4 k5 k6 k7 k8 k9 dx' nm' ct' raw' n' nt' b' simple' vs' k1' k2' k3' k4' k5' k6' k7' k8' k9' cs es g s R p loose mean mg mb := fun {w x y dx nm ct raw n nt b simple vs k1 k2 k3 k4 k5 k6 k7 k8 k9 dx' nm' ct' raw' n' nt' b' simple' vs' k1' k2' k3' k4' k5' k6' k7' k8' k9' cs es g s R p loose mean mg mb} => by with_unfolding_all exact pk (c := E_sp_equal_c.ζ) rfl E_sp_equal_c.core ((((((w, x), (y, dx)), ((nm, ct), (raw, n))), (((nt, b), (simple, vs)), ((k1, k2), (k3, k4)))), ((((k5, k6), (k7, k8)), ((k9, dx'), (nm', ct'))), (((raw', n'), (nt', b')), ((simple', vs'), (k1', k2'))))), (((((k3', k4'), (k5', k6')), ((k7', k8'), (k9', cs))), (((es, g), (s, R)), ((p, loose), (mean, mg)))), mb))
theorem sp_equal {w : World} (x y : Addr) (d e : Ws) (cs es : List Int) (ia : IntsAre d.vs cs) (ie : IntsAre e.vs es) (hlen : cs.length ≤ 300) (hlen2 : es.length ≤ 300) (hb0 : 0 ≤ d.b) (hb : d.b ≤ 300) (hc0 : 0 ≤ e.b) (hc : e.b ≤ 300) : Spec w 880 76 [.ref x, .ref y] (wsT w x d ++ wsT w y e) (fun v T' => v = .bool (decide (cs = es) && decide (d.b = e.b)) ∧ T' = wsT w x d ++ wsT w y e) := by
  obtain ⟨dx, nm, ct, raw, n, nt, b, simple, vs, k1, k2, k3, k4, k5, k6, k7, k8, k9⟩ := d
  obtain ⟨dx', nm', ct', raw', n', nt', b', simple', vs', k1', k2', k3', k4', k5', k6', k7', k8', k9'⟩ := e
  exact fun g s R p loose mean mg mb => @sp_equal_c w x y dx nm ct raw n nt b simple vs k1 k2 k3 k4 k5 k6 k7 k8 k9 dx' nm' ct' raw' n' nt' b' simple' vs' k1' k2' k3' k4' k5' k6' k7' k8' k9' cs es g s R p loose mean mg mb ia ie hlen hlen2 hb0 hb hc0 hc
end
section
noncomputable def witD (d e : Nat → Int) (j : Nat) : Option PyData := if d (1 + j) = e (1 + j) then none else some (.tuple [.int ((1 + j : Nat) : Int), .int (d (1 + j)), .int (e (1 + j))])
theorem wit_no {d e : Nat → Int} {j : Nat} (h : d (1 + j) = e (1 + j)) : (List.range (j + 1)).filterMap (witD d e) = (List.range j).filterMap (witD d e) := by
  rw [List.range_succ, List.filterMap_append]; simp [witD, h]
theorem wit_yes {d e : Nat → Int} {j : Nat} (h : ¬ d (1 + j) = e (1 + j)) : (List.range (j + 1)).filterMap (witD d e) = (List.range j).filterMap (witD d e) ++ [.tuple [.int ((1 + j : Nat) : Int), .int (d (1 + j)), .int (e (1 + j))]] := by
  rw [List.range_succ, List.filterMap_append]; simp [witD, h]
noncomputable section
namespace E_sp_wit_c
def P (w : World) (x y dx nm ct : Addr) (raw : Str) (n nt b : Int) (simple : Bool) (vs : List Value) (k1 k2 k3 k4 k5 k6 k7 k8 k9 : Tok) (dx' nm' ct' : Addr) (raw' : Str) (n' nt' b' : Int) (simple' : Bool) (vs' : List Value) (k1' k2' k3' k4' k5' k6' k7' k8' k9' : Tok) (cs es : List Int) (g : Heap) (s : Shared) (R : RsP) (p : Program) (loose : List Str) (mean : EoV) (mg mb : SoV) : Prop := (IntsAre vs cs) → (IntsAre vs' es) → (cs.length ≤ 300) → (es.length ≤ 300) → (0 ≤ b) → (b ≤ 300) → (0 ≤ b') → (b' ≤ 300) → SpecAt w 880 83 [.ref x, .ref y] (wsT w x (⟨dx, nm, ct, raw, n, nt, b, simple, vs, k1, k2, k3, k4, k5, k6, k7, k8, k9⟩ : Ws) ++ wsT w y (⟨dx', nm', ct', raw', n', nt', b', simple', vs', k1', k2', k3', k4', k5', k6', k7', k8', k9'⟩ : Ws)) (fun v T' => ∃ la c us U, v = .ref la ∧ T' = wsT w x (⟨dx, nm, ct, raw, n, nt, b, simple, vs, k1, k2, k3, k4, k5, k6, k7, k8, k9⟩ : Ws) ++ wsT w y (⟨dx', nm', ct', raw', n', nt', b', simple', vs', k1', k2', k3', k4', k5', k6', k7', k8', k9'⟩ : Ws) ++ (la, W.listOf us.toArray c) :: U ∧ RdA U us ((List.range ((mx (longB b cs.length) (longB b' es.length)).toNat + 1)).filterMap (witD (fun t => ilB t b nt cs) (fun t => ilB t b' nt' es)))) g s R p loose mean mg mb
@[irreducible] def ζ := upick (by walk_at "m ne") ((ucat un32 (ucat un16 un1)) P)
@[irreducible] def w := ζ.1.1.1.1.1.1
@[irreducible] def x := ζ.1.1.1.1.1.2
@[irreducible] def y := ζ.1.1.1.1.2.1
@[irreducible] def dx := ζ.1.1.1.1.2.2
@[irreducible] def nm := ζ.1.1.1.2.1.1
@[irreducible] def ct := ζ.1.1.1.2.1.2
@[irreducible] def raw := ζ.1.1.1.2.2.1
@[irreducible] def n := ζ.1.1.1.2.2.2
@[irreducible] def nt := ζ.1.1.2.1.1.1
@[irreducible] def b := ζ.1.1.2.1.1.2
@[irreducible] def simple := ζ.1.1.2.1.2.1
@[irreducible] def vs := ζ.1.1.2.1.2.2
@[irreducible] def k1 := ζ.1.1.2.2.1.1
@[irreducible] def k2 := ζ.1.1.2.2.1.2
@[irreducible] def k3 := ζ.1.1.2.2.2.1
@[irreducible] def k4 := ζ.1.1.2.2.2.2
@[irreducible] def k5 := ζ.1.2.1.1.1.1
@[irreducible] def k6 := ζ.1.2.1.1.1.2
@[irreducible] def k7 := ζ.1.2.1.1.2.1
@[irreducible] def k8 := ζ.1.2.1.1.2.2
@[irreducible] def k9 := ζ.1.2.1.2.1.1
@[irreducible] def dx' := ζ.1.2.1.2.1.2
@[irreducible] def nm' := ζ.1.2.1.2.2.1
@[irreducible] def ct' := ζ.1.2.1.2.2.2
@[irreducible] def raw' := ζ.1.2.2.1.1.1
@[irreducible] def n' := ζ.1.2.2.1.1.2
@[irreducible] def nt' := ζ.1.2.2.1.2.1
@[irreducible] def b' := ζ.1.2.2.1.2.2
@[irreducible] def simple' := ζ.1.2.2.2.1.1
@[irreducible] def vs' := ζ.1.2.2.2.1.2
@[irreducible] def k1' := ζ.1.2.2.2.2.1
@[irreducible] def k2' := ζ.1.2.2.2.2.2
@[irreducible] def k3' := ζ.2.1.1.1.1.1
@[irreducible] def k4' := ζ.2.1.1.1.1.2
@[irreducible] def k5' := ζ.2.1.1.1.2.1
@[irreducible] def k6' := ζ.2.1.1.1.2.2
@[irreducible] def k7' := ζ.2.1.1.2.1.1
@[irreducible] def k8' := ζ.2.1.1.2.1.2
@[irreducible] def k9' := ζ.2.1.1.2.2.1
@[irreducible] def cs := ζ.2.1.1.2.2.2
@[irreducible] def es := ζ.2.1.2.1.1.1
@[irreducible] def g := ζ.2.1.2.1.1.2
@[irreducible] def s := ζ.2.1.2.1.2.1
@[irreducible] def p := ζ.2.1.2.2.1.1
theorem core : P w x y dx nm ct raw n nt b simple vs k1 k2 k3 k4 k5 k6 k7 k8 k9 dx' nm' ct' raw' n' nt' b' simple' vs' k1' k2' k3' k4' k5' k6' k7' k8' k9' cs es g s ζ.2.1.2.1.2.2 p ζ.2.1.2.2.1.2 ζ.2.1.2.2.2.1 ζ.2.1.2.2.2.2 ζ.2.2 := by
  intro ia ie hlen hlen2 hb0 hb hc0 hc X Tp G ND k
  have hvl := ia.length
  have hvl2 := ie.length
  revert X; k_fill; intro X
  refine' enterS (binds := [(Str.ofString "self", .ref x), (Str.ofString "other", .ref y)]) X Tp G ?k6 ?k7 ?k8 ?k9 ?kB ?_ ?c2 ?c3 ?c4 ?c5
  case k6 => k_is
  case k7 => k_is
  case k8 => decide
  case k9 => exact BindsTo.of_eq rfl
  case c5 => decide
  case kB => exact locs rfl
  case c2 => exact rfl
  case c3 => exact rfl
  case c4 => exact rfl
  intro h' F' N'
  try dsimp only
  try dsimp only [wsT, List.cons_append, List.nil_append] at N' ND
  try k_fold
  walk_at "m go"
  have hlx := longB_le hb0 hb hlen
  have hly := longB_le hc0 hc hlen2
  generalize hA : longB b cs.length = LA at *
  generalize hB : longB b' es.length = LB at *
  walk_at "m for"
  walk_at "m go"
  have hN0 : 0 ≤ (if LB > LA then LB else LA) ∧ (if LB > LA then LB else LA) ≤ 300 := mx_le ‹_› ‹_›
  have hN9 : (if LB > LA then LB else LA) = mx LA LB := rfl
  rw [hN9] at hN0
  generalize hN : mx LA LB = NN at *
  refine' for_rangeT (L := s.heap.objs.size) (n := NN.toNat + 1) (J := fun j V T => ∃ la c us U zn tn, V = [(Str.ofString "self", Value.ref x), (Str.ofString "other", Value.ref y), (Str.ofString "n", Value.int zn tn), (Str.ofString "a", Value.ref la)] ∧ T = wsT w x ⟨dx, nm, ct, raw, n, nt, b, simple, vs, k1, k2, k3, k4, k5, k6, k7, k8, k9⟩ ++ wsT w y ⟨dx', nm', ct', raw', n', nt', b', simple', vs', k1', k2', k3', k4', k5', k6', k7', k8', k9'⟩ ++ (la, W.listOf us.toArray c) :: U ∧ RdA U us ((List.range j).filterMap (witD (fun t => ilB t b nt cs) (fun t => ilB t b' nt' es))) ∧ us.length ≤ j) (V₀ := _) (by rfl) ‹_› ?hsm ?hn (by rfl) (by rfl) (by rfl) ‹_› ?lc ‹_› (by k_dflt assumption) ⟨_, _, [], [], _, _, rfl, rfl, .nil, by simp⟩ ?tk ?_ ?_
  case hsm => exact rg_small (by lia) (by lia) (by lia) (by lia)
  case hn => exact rg_size (by split <;> lia)
  case lc => walk_at "m loc"
  case tk => walk_at "m take"
  · intro i t m V T h₁ tk₁ I oI E' hi j F₁ N₁ nd₁
    obtain ⟨la, c, us, U, zn, tn, rfl, rfl, hz, hl⟩ := j
    dsimp only [wsT, List.cons_append, List.nil_append] at N₁ nd₁
    rw [show (1 : Int) + (i : Int) * 1 = ((1 + i : Nat) : Int) by lia] at F₁
    walk_at "m go"
    · simp only [List.push_toArray] at *
      refine' turn_next ‹_› ‹_› (by k_dflt assumption) _ _ ⟨_, _, _, (_, tupOf _ 0) :: U, _, _, rfl, rfl, ?hz, ?hl⟩ ?l ?tk
      case l => walk_at "m loc"
      case tk => walk_at "m take"
      case hz =>
        rw [wit_yes ‹_›]
        refine RdA.snoc (hz.mono fun p hp => List.mem_cons_of_mem _ hp) (Rd.tup List.mem_cons_self (.cons (.int _ _) (.cons (.int _ _) (.cons (.int _ _) .nil))))
      case hl => rw [List.length_append]; simp; lia
    · refine' turn_next ‹_› ‹_› (by k_dflt assumption) _ _ ⟨_, _, _, U, _, _, rfl, rfl, ?hz, ?hl⟩ ?l ?tk
      case l => walk_at "m loc"
      case tk => walk_at "m take"
      case hz => rw [wit_no ‹_›]; exact hz
      case hl => lia
  · intro m V T h₁ tk₁ E' j F₁ N₁ nd₁
    obtain ⟨la, c, us, U, zn, tn, rfl, rfl, hz, hl⟩ := j
    dsimp only [wsT, List.cons_append, List.nil_append] at N₁ nd₁
    walk_at "m go"
    dsimp only
    refine' lve_take (T := wsT w x ⟨dx, nm, ct, raw, n, nt, b, simple, vs, k1, k2, k3, k4, k5, k6, k7, k8, k9⟩ ++ wsT w y ⟨dx', nm', ct', raw', n', nt', b', simple', vs', k1', k2', k3', k4', k5', k6', k7', k8', k9'⟩ ++ (la, W.listOf us.toArray c) :: U) ‹_› ‹_› (by k_dflt assumption) ?tk ?_
    case tk => walk_at "m take"
    intro G' ND'
    refine k _ _ _ _ ⟨la, c, us, U, rfl, rfl, hz⟩ G' ND'
end E_sp_wit_c
end
theorem sp_wit_c : ∀ {w x y dx nm ct raw n nt b simple vs k1 k2 k3 k4 k5 k6 k7 k8 k9 dx' nm' ct' raw' n' nt' b' simple' vs' k1' k2' k3' k4' k5' k6' k7' k8' k9' cs es g s R p loose mean mg mb}, E_sp_wit_c.P w x y dx nm ct raw n nt b simple vs k1 k2 k3 k4 k5 k6 k7 k8 k9 dx' nm' ct' raw' n' nt' b' simple' vs' k1' k2' k3' k4' k5' k6' k7' k8' k9' cs es g s R p loose mean mg mb := fun {w x y dx nm ct raw n nt b simple vs k1 k2 k3 k4 k5 k6 k7 k8 k9 dx' nm' ct' raw' n' nt' b' simple' vs' k1' k2' k3' k4' k5' k6' k7' k8' k9' cs es g s R p loose mean mg mb} => by with_unfolding_all exact pk (c := E_sp_wit_c.ζ) rfl E_sp_wit_c.core ((((((w, x), (y, dx)), ((nm, ct), (raw, n))), (((nt, b), (simple, vs)), ((k1, k2), (k3, k4)))), ((((k5, k6), (k7, k8)), ((k9, dx'), (nm', ct'))), (((raw', n'), (nt', b')), ((simple', vs'), (k1', k2'))))), (((((k3', k4'), (k5', k6')), ((k7', k8'), (k9', cs))), (((es, g), (s, R)), ((p, loose), (mean, mg)))), mb))
theorem sp_wit {w : World} (x y : Addr) (d e : Ws) (cs es : List Int) (ia : IntsAre d.vs cs) (ie : IntsAre e.vs es) (hlen : cs.length ≤ 300) (hlen2 : es.length ≤ 300) (hb0 : 0 ≤ d.b) (hb : d.b ≤ 300) (hc0 : 0 ≤ e.b) (hc : e.b ≤ 300) : Spec w 880 83 [.ref x, .ref y] (wsT w x d ++ wsT w y e) (fun v T' => ∃ la c us U, v = .ref la ∧ T' = wsT w x d ++ wsT w y e ++ (la, W.listOf us.toArray c) :: U ∧ RdA U us ((List.range ((mx (longB d.b cs.length) (longB e.b es.length)).toNat + 1)).filterMap (witD (fun t => ilB t d.b d.nt cs) (fun t => ilB t e.b e.nt es)))) := by
  obtain ⟨dx, nm, ct, raw, n, nt, b, simple, vs, k1, k2, k3, k4, k5, k6, k7, k8, k9⟩ := d
  obtain ⟨dx', nm', ct', raw', n', nt', b', simple', vs', k1', k2', k3', k4', k5', k6', k7', k8', k9'⟩ := e
  exact fun g s R p loose mean mg mb => @sp_wit_c w x y dx nm ct raw n nt b simple vs k1 k2 k3 k4 k5 k6 k7 k8 k9 dx' nm' ct' raw' n' nt' b' simple' vs' k1' k2' k3' k4' k5' k6' k7' k8' k9' cs es g s R p loose mean mg mb ia ie hlen hlen2 hb0 hb hc0 hc
end
section
noncomputable def lastDef {α : Type} (d : α) (f : List Stmt → Scope → α) : List Stmt → α
  | [] => d
  | [.FunctionDef _ _ body _ _ _ scope _ _ _] => f body scope
  | _ :: r => lastDef d f r
noncomputable def lawBody : List Stmt := lastDef [] (fun b _ => b) Challenge.pw_uc0019_01.main.body
noncomputable def lawScope : Scope := lastDef { kind := .function, names := [], isGenerator := false, isCoroutine := false } (fun _ s => s) Challenge.pw_uc0019_01.main.body
noncomputable def blockOf : Nat → List Stmt → List Stmt
  | 0, .For _ _ b _ _ :: _ => b
  | n + 1, _ :: r => blockOf n r
  | _, _ => []
noncomputable def lawRun : Nat → Nat → List Stmt → List Stmt → List Stmt
  | 0, 0, _, rest => rest
  | 0, k + 1, s :: r, rest => s :: lawRun 0 k r rest
  | n + 1, k, _ :: r, rest => lawRun n k r rest
  | _, _, [], rest => rest
section
variable {prog : Program} {w : World} {A : Around} {E : Value → Shared → Prop} {s : Shared} {g : Heap} {L : Addr} {m : Str → Option Value} {led : List (Addr × Obj)}
theorem slice3_w {value slice : PySem.Expr} {l : Addr} {vs : List Value} {vl vu vk : Value} {lo hi st : Option Int} {ops : List Value} {Q : Value → Shared → Prop}
    (F : Fr g L s.heap m) (N : News g L s.heap led) (hl : s.heap.IsList l vs.toArray) (pl : IsPart vl lo) (pu : IsPart vu hi) (pk : IsPart vk st) (h0 : st ≠ some 0) (hz : vs.length ≤ 10000)
    (h : ∀ D us h', us = (slicePick vs.toArray lo hi st).toList → us.length ≤ vs.length → Fr g L h' m → News g L h' ((D, W.listOf us.toArray 0) :: led) → (∀ p ∈ led, p.1 < D) → Q (.ref D) { s with heap := h' })
    (hs : subscripted slice false (.ref l) (.ref s.heap.objs.size) = operate ops (getItem (.ref l) (.ref s.heap.objs.size)))
    (ht : ∀ r, letTemporaryGo value (.ref l) r = pure ()) :
    wpAny (model prog w) A (subscriptTail value slice (.ref l) (.ref s.heap.objs.size)) Q E { s with heap := s.heap.push { cls := .type "slice", data := .fields #[vl, vu, vk] } } := by
  refine slice_list3 F N hl pl pu pk h0 (fun h' F' N' => ?_) hs ht (size_line (by simpa using Nat.le_trans hz (by decide)))
  refine h _ _ h' rfl ?_ F' ?_ fun p hp => Nat.lt_succ_of_lt (Heap.lt_size (N p hp).1)
  · rw [Array.length_toList]
    have := slicePick_size_le vs.toArray lo hi st
    rwa [List.size_toArray] at this
  · rw [Array.toArray_toList]
    exact N'
end
noncomputable abbrev lawEnv (L' : Addr) : Env := envOfC (Str.ofString "law") lawScope L' 214 (.ref 213)
noncomputable def KontK (w : World) (g : Heap) (L' : Addr) (rest : List Stmt) (Q : Flow → Shared → Prop) (E : Value → Shared → Prop) (s : Shared) (V : List (Str × Value)) (T : List (Addr × Obj)) : Prop :=
  ∀ h' tk m, Fr g L' h' (over V m) → News g L' h' T → Apart (T.map (·.1)) → wpAny (model Challenge.rw_uc0019_01.row.prog w) ((Lv 850).deeper (lawEnv L')) (execs rest (lawEnv L')) Q E { s with heap := h', toks := tk }
theorem seg_end {w : World} {g : Heap} {L' : Addr} {rest : List Stmt} {Q : Flow → Shared → Prop} {E : Value → Shared → Prop} {s : Shared} {V : List (Str × Value)} {T : List (Addr × Obj)} (k : KontK w g L' rest Q E s V T)
    {h' : Heap} {tk : Nat} {m : Str → Option Value} {led rs : List (Addr × Obj)} (F : Fr g L' h' m) (N : News g L' h' led) (nd : Apart (led.map (·.1))) (l : Loc m V) (t : TakeAll led T rs) :
    wpAny (model Challenge.rw_uc0019_01.row.prog w) ((Lv 850).deeper (lawEnv L')) (execs rest (lawEnv L')) Q E { s with heap := h', toks := tk } := by
  obtain ⟨N', nd'⟩ := take2 N nd t
  rw [← over_same l.all] at F
  exact k h' tk m F N' nd'
noncomputable def KontF (w : World) (g : Heap) (L' : Addr) (rest : List Stmt) (Q : Flow → Shared → Prop) (E : Value → Shared → Prop) (s : Shared) (m₀ : Str → Option Value) (W : List Str) (V : List (Str × Value)) (T : List (Addr × Obj)) : Prop :=
  ∀ h' tk m, (∀ y, y ∉ W → m y = m₀ y) → Fr g L' h' (over V m) → News g L' h' T → Apart (T.map (·.1)) → wpAny (model Challenge.rw_uc0019_01.row.prog w) ((Lv 850).deeper (lawEnv L')) (execs rest (lawEnv L')) Q E { s with heap := h', toks := tk }
theorem segF_end {w : World} {g : Heap} {L' : Addr} {rest : List Stmt} {Q : Flow → Shared → Prop} {E : Value → Shared → Prop} {s : Shared} {m₀ : Str → Option Value} {W : List Str} {V : List (Str × Value)} {T : List (Addr × Obj)} (k : KontF w g L' rest Q E s m₀ W V T)
    {h' : Heap} {tk : Nat} {m : Str → Option Value} {led rs : List (Addr × Obj)} (F : Fr g L' h' m) (N : News g L' h' led) (nd : Apart (led.map (·.1))) (l : Loc m V) (fr : ∀ y, y ∉ W → m y = m₀ y) (t : TakeAll led T rs) :
    wpAny (model Challenge.rw_uc0019_01.row.prog w) ((Lv 850).deeper (lawEnv L')) (execs rest (lawEnv L')) Q E { s with heap := h', toks := tk } := by
  obtain ⟨N', nd'⟩ := take2 N nd t
  rw [← over_same l.all] at F
  exact k h' tk m fr F N' nd'
noncomputable def SegKS (w : World) (g : Heap) (s : Shared) (p : Program) (loose : List Str) (mean : ExcName → Option Value) (mg mb : Str → Option Value) (L' : Addr) (Q : Flow → Shared → Prop) (E : Value → Shared → Prop) (m : Str → Option Value) (rest run : List Stmt) (V : List (Str × Value)) (T : List (Addr × Obj)) (J : (List (Str × Value) → List (Addr × Obj) → Prop) → Prop) : Prop :=
  (hd.heap_39 w.params).In g → Top p loose mean mg mb g → Fr g L' s.heap (over V m) → News g L' s.heap T → Apart (T.map (·.1)) → ∀ K, (∀ V' T', K V' T' → KontK w g L' rest Q E s V' T') → J K →
    wpAny (model Challenge.rw_uc0019_01.row.prog w) ((Lv 850).deeper (lawEnv L')) (execs run (lawEnv L')) Q E s
noncomputable def SegFS (w : World) (g : Heap) (s : Shared) (p : Program) (loose : List Str) (mean : ExcName → Option Value) (mg mb : Str → Option Value) (L' : Addr) (Q : Flow → Shared → Prop) (E : Value → Shared → Prop) (m : Str → Option Value) (rest run : List Stmt) (V : List (Str × Value)) (T : List (Addr × Obj)) (W : List Str) (J : (List (Str × Value) → List (Addr × Obj) → Prop) → Prop) : Prop :=
  (hd.heap_39 w.params).In g → Top p loose mean mg mb g → Fr g L' s.heap (over V m) → News g L' s.heap T → Apart (T.map (·.1)) → ∀ K, (∀ V' T', K V' T' → KontF w g L' rest Q E s (over V m) W V' T') → J K →
    wpAny (model Challenge.rw_uc0019_01.row.prog w) ((Lv 850).deeper (lawEnv L')) (execs run (lawEnv L')) Q E s
noncomputable def Stt (g : Heap) (L : Addr) (h : Heap) (V : List (Str × Value)) (T : List (Addr × Obj)) : Prop := (∃ m, Fr g L h (over V m)) ∧ News g L h T ∧ Apart (T.map (·.1))
theorem Stt.of {g : Heap} {L : Addr} {h : Heap} {V : List (Str × Value)} {T : List (Addr × Obj)} {m : Str → Option Value} (F : Fr g L h (over V m)) (N : News g L h T) (nd : Apart (T.map (·.1))) : Stt g L h V T := ⟨⟨m, F⟩, N, nd⟩
noncomputable def outs (W : List Str) (V : List (Str × Value)) : List (Str × Value) := V.filter fun p => !W.contains p.1
theorem outs_look {W : List Str} {y : Str} {v : Value} : ∀ {V : List (Str × Value)}, (outs W V).lookup y = some v → y ∉ W ∧ V.lookup y = some v
  | [], h => by cases h
  | (n, u) :: r, h => by
    unfold outs at h
    rw [List.filter_cons] at h
    by_cases hn : W.contains n = true
    · rw [hn] at h
      have ih := outs_look (V := r) (W := W) (y := y) (v := v) h
      refine ⟨ih.1, ?_⟩
      rw [List.lookup_cons]
      cases e : y == n with
      | true => exact absurd (by rw [eq_of_beq e]; exact List.contains_iff_mem.mp hn) ih.1
      | false => exact ih.2
    · have hn' : W.contains n = false := by simpa using hn
      rw [hn', Bool.not_false, if_pos rfl, List.lookup_cons] at h
      rw [List.lookup_cons]
      cases e : y == n with
      | true =>
        rw [e] at h
        refine ⟨fun hm => ?_, h⟩
        rw [eq_of_beq e] at hm
        exact hn (List.contains_iff_mem.mpr hm)
      | false => rw [e] at h; exact outs_look (V := r) h
theorem over_app {V R : List (Str × Value)} {m : Str → Option Value} (h : ∀ y v, R.lookup y = some v → m y = some v) : over (V ++ R) m = over V m := by
  funext y
  unfold over
  rw [List.lookup_append]
  cases V.lookup y with
  | some v => rfl
  | none =>
    cases e : R.lookup y with
    | some v => exact (h y v e).symm
    | none => rfl
section
variable {w : World} {g : Heap} {s : Shared} {p : Program} {loose : List Str} {mean : ExcName → Option Value} {mg mb : Str → Option Value} {L' : Addr} {Q : Flow → Shared → Prop} {E : Value → Shared → Prop} {rest run : List Stmt} {V V₀ : List (Str × Value)} {T T₀ r : List (Addr × Obj)}
theorem useK {J : (List (Str × Value) → List (Addr × Obj) → Prop) → Prop} (S : ∀ m, SegKS w g s p loose mean mg mb L' Q E m rest run V T J) (X : (hd.heap_39 w.params).In g) (Tp : Top p loose mean mg mb g) (st : Stt g L' s.heap V₀ T₀) (lv : ∀ m, Loc (over V₀ m) V) (tk : TakeAll T₀ T r)
    (k : J fun V' T' => ∀ h tk, Stt g L' h V' T' → wpAny (model Challenge.rw_uc0019_01.row.prog w) ((Lv 850).deeper (lawEnv L')) (execs rest (lawEnv L')) Q E { s with heap := h, toks := tk }) :
    wpAny (model Challenge.rw_uc0019_01.row.prog w) ((Lv 850).deeper (lawEnv L')) (execs run (lawEnv L')) Q E s := by
  obtain ⟨⟨m, F⟩, N, nd⟩ := st
  obtain ⟨N', nd'⟩ := take2 N nd tk
  exact S (over V₀ m) X Tp (fr_loc F (lv m)) N' nd' _ (fun _ _ c h tk m' F N nd => c h tk ⟨⟨m', F⟩, N, nd⟩) k
theorem useF {W : List Str} (NJ : List Str) {J : (List (Str × Value) → List (Addr × Obj) → Prop) → Prop} (VR : List (Str × Value)) (S : ∀ m, SegFS w g s p loose mean mg mb L' Q E m rest run V T W J) (X : (hd.heap_39 w.params).In g) (Tp : Top p loose mean mg mb g) (st : Stt g L' s.heap V₀ T₀) (lv : ∀ m, Loc (over V₀ m) V) (tk : TakeAll T₀ T r) (e : outs (W ++ NJ) V₀ = VR)
    (k : J fun V' T' => ∀ h tk, Stt g L' h (V' ++ VR) T' → wpAny (model Challenge.rw_uc0019_01.row.prog w) ((Lv 850).deeper (lawEnv L')) (execs rest (lawEnv L')) Q E { s with heap := h, toks := tk }) :
    wpAny (model Challenge.rw_uc0019_01.row.prog w) ((Lv 850).deeper (lawEnv L')) (execs run (lawEnv L')) Q E s := by
  subst e
  obtain ⟨⟨m, F⟩, N, nd⟩ := st
  obtain ⟨N', nd'⟩ := take2 N nd tk
  refine S (over V₀ m) X Tp (fr_loc F (lv m)) N' nd' _ (fun _ _ c h tk m' fr F N nd => c h tk ⟨⟨m', ?_⟩, N, nd⟩) k
  rw [over_app fun y v hy => ?_]
  · exact F
  · obtain ⟨h1, h2⟩ := outs_look hy
    rw [fr y (fun z => h1 (List.mem_append_left _ z)), over_same (lv m).all]
    unfold over; rw [h2]
end
end
section
theorem sp_leadI {w : World} (z o k : Int) (t1 t2 t3 : Tok) (h1 : 1 ≤ z) (h2 : z ≤ 20) (h3 : 0 ≤ o) (h4 : o ≤ 1) (h5 : 0 ≤ k) (h6 : k ≤ 1) :
    Spec w 900 192 [.int z t1, .int o t2, .int k t3] [] (fun v T' => StrV v (lead z.toNat o.toNat k.toNat) ∧ T' = []) := by
  obtain ⟨a, rfl⟩ := Int.eq_ofNat_of_zero_le (by lia : 0 ≤ z)
  obtain ⟨b, rfl⟩ := Int.eq_ofNat_of_zero_le h3
  rw [Int.toNat_natCast, Int.toNat_natCast]
  obtain rfl | rfl : k = 0 ∨ k = 1 := by lia
  · exact sp_lead0 a b t1 t2 t3 (by lia) (by lia) (by lia)
  · exact sp_lead1 a b t1 t2 t3 (by lia) (by lia) (by lia)
theorem lead_lt (a o k : Nat) : ∀ c ∈ lead a o k, c < 128 := by
  intro c hc
  unfold lead at hc
  split at hc
  · simp only [List.mem_append, List.mem_replicate, List.mem_cons, List.not_mem_nil, or_false] at hc
    lia
  · simp only [List.mem_append, List.mem_replicate, List.mem_flatten, List.mem_cons, List.not_mem_nil, or_false] at hc
    rcases hc with (hc | ⟨l, hl, hc⟩) | hc
    · lia
    · rw [hl.2] at hc; simp at hc; lia
    · lia
theorem lead_len {a o k : Nat} (ha : a ≤ 20) (ho : o ≤ 1) : (lead a o k).length ≤ 200 := by
  unfold lead
  split
  · simp; lia
  · simp; lia
theorem ws_le {l : List Nat} (h : l.length ≤ 200) : (wsOf l).b ≤ 300 ∧ (wsOf l).cs.length ≤ 300 := by
  have h1 : wsOf l = stOf (l.takeWhile isWs) (l.takeWhile isWs).length := by unfold wsOf stOf; rw [List.take_length]
  have h2 := ws_bound (l.takeWhile isWs) (l.takeWhile isWs).length
  rw [← h1] at h2
  have h3 : (l.takeWhile isWs).length ≤ l.length := (List.takeWhile_sublist _).length_le
  lia
theorem ws_new {w : World} {l : List Nat} {t0 : Tok} {led : List (Addr × Obj)} {A : Around} {g : Heap} {L : Addr} {m mg mb : Str → Option Value} {s : Shared} {Q : Value → Shared → Prop} {E : Value → Shared → Prop} {p : Program} {loose : List Str} {mean : ExcName → Option Value}
    (hl : ∀ c ∈ l, c < 128) (hlen : l.length ≤ 200) (F : Fr g L s.heap m := by k_asm) (X : (hd.heap_39 w.params).In g := by k_asm) (Tp : Top p loose mean mg mb g := by k_asm) (N : News g L s.heap led := by k_asm) (nd : Apart (led.map (·.1)) := by k_dflt assumption) (hA : ALe (A.under (.builtin "type.__call__" ⟨[.ref 100, .str (Tx l) t0], []⟩)) (Lv 900) := by exact ale_lv (by rfl) (Nat.le_of_ble_eq_true rfl) (Nat.le_of_ble_eq_true rfl))
    (h : ∀ x d h' tk, WsOk l d → Fr g L h' m → News g L h' (wsT w x d ++ led) → Apart ((wsT w x d ++ led).map (·.1)) → Q (.ref x) { s with heap := h', toks := tk }) :
    wpAny (model Challenge.rw_uc0019_01.row.prog w) A (call (.ref 100) [.str (Tx l) t0] []) Q E s := by
  revert X; k_fill; intro X
  refine cls_spec (fI := 55) (C := 100) (T := []) (P := fun x dx T' => ∃ d : Ws, d.dx = dx ∧ T' = wsT w x d ∧ WsOk l d) (fun x dx => sp_init x dx l t0 hl hlen) F X Tp N nd TakeAll.nil ?hm ?hi ?hf hA
    fun x dx T' h' tk hP F' N' nd' => ?_
  case hm => k_is
  case hi => k_is
  case hf => k_is
  obtain ⟨d, _, rfl, hd⟩ := hP
  exact h x d h' tk hd F' N' nd'
noncomputable def lessW (a b : WsS) : Bool := lessB a.n a.nt a.b (decide (a.cs.length ≤ 1)) a.cs b.n b.nt b.b (decide (b.cs.length ≤ 1)) b.cs
theorem sp_lessW {w : World} (x y : Addr) (d e : Ws) (l l' : List Nat) (hd : WsOk l d) (he : WsOk l' e) (h1 : l.length ≤ 200) (h2 : l'.length ≤ 200) :
    Spec w 880 90 [.ref x, .ref y] (wsT w x d ++ wsT w y e) (fun v T' => v = .bool (lessW (wsOf l) (wsOf l')) ∧ T' = wsT w x d ++ wsT w y e) := by
  have a := ws_le h1
  have b := ws_le h2
  have h := sp_less (w := w) x y d e (wsOf l).cs (wsOf l').cs hd.vs he.vs a.2 b.2 (by rw [hd.b]; lia) (by rw [hd.b]; lia) (by rw [he.b]; lia) (by rw [he.b]; lia)
  rw [hd.n, hd.nt, hd.b, hd.simple, he.n, he.nt, he.b, he.simple] at h
  exact h
noncomputable def equalW (a b : WsS) : Bool := decide (a.cs = b.cs) && decide ((a.b : Int) = b.b)
theorem sp_equalW {w : World} (x y : Addr) (d e : Ws) (l l' : List Nat) (hd : WsOk l d) (he : WsOk l' e) (h1 : l.length ≤ 200) (h2 : l'.length ≤ 200) :
    Spec w 880 76 [.ref x, .ref y] (wsT w x d ++ wsT w y e) (fun v T' => v = .bool (equalW (wsOf l) (wsOf l')) ∧ T' = wsT w x d ++ wsT w y e) := by
  have a := ws_le h1
  have b := ws_le h2
  have h := sp_equal (w := w) x y d e (wsOf l).cs (wsOf l').cs hd.vs he.vs a.2 b.2 (by rw [hd.b]; lia) (by rw [hd.b]; lia) (by rw [he.b]; lia) (by rw [he.b]; lia)
  rw [hd.b, he.b] at h
  exact h
noncomputable def witW (a b : WsS) : List PyData := (List.range ((mx (longB a.b a.cs.length) (longB b.b b.cs.length)).toNat + 1)).filterMap (witD (fun t => ilB t a.b a.nt a.cs) (fun t => ilB t b.b b.nt b.cs))
theorem sp_witW {w : World} (x y : Addr) (d e : Ws) (l l' : List Nat) (hd : WsOk l d) (he : WsOk l' e) (h1 : l.length ≤ 200) (h2 : l'.length ≤ 200) :
    Spec w 880 83 [.ref x, .ref y] (wsT w x d ++ wsT w y e) (fun v T' => ∃ la c vs U, v = .ref la ∧ T' = wsT w x d ++ wsT w y e ++ (la, W.listOf vs.toArray c) :: U ∧ RdA U vs (witW (wsOf l) (wsOf l'))) := by
  have a := ws_le h1
  have b := ws_le h2
  have h := sp_wit (w := w) x y d e (wsOf l).cs (wsOf l').cs hd.vs he.vs a.2 b.2 (by rw [hd.b]; lia) (by rw [hd.b]; lia) (by rw [he.b]; lia) (by rw [he.b]; lia)
  rw [hd.b, he.b, hd.nt, he.nt] at h
  exact h
noncomputable def chkLess : Bool := (List.range 7).all fun a => (List.range 7).all fun b => [0, 1].all fun o => [0, 1].all fun p => [0, 1].all fun k => lessW (wsOf (lead (a + 1) o k)) (wsOf (lead (b + 1) p k)) == decide (a < b)
theorem chkLess_ok : chkLess = true := by decide +kernel
theorem less_lead {a b o p k : Nat} (ha : a ≤ 6) (hb : b ≤ 6) (ho : o ≤ 1) (hp : p ≤ 1) (hk : k ≤ 1) : lessW (wsOf (lead (a + 1) o k)) (wsOf (lead (b + 1) p k)) = decide (a < b) := by
  have h := chkLess_ok
  unfold chkLess at h
  rw [List.all_eq_true] at h
  have h := h a (by simp; lia)
  rw [List.all_eq_true] at h
  have h := h b (by simp; lia)
  rw [List.all_eq_true] at h
  have h := h o (by simp; lia)
  rw [List.all_eq_true] at h
  have h := h p (by simp; lia)
  rw [List.all_eq_true] at h
  have h := h k (by simp; lia)
  exact eq_of_beq h
theorem runs_lt (ns : List Int) : ∀ c ∈ runsL ns, c < 128 := by
  intro c hc
  unfold runsL run1 at hc
  simp only [List.mem_flatten, List.mem_map] at hc
  obtain ⟨l, ⟨n, _, rfl⟩, hc⟩ := hc
  simp only [List.mem_append, List.mem_replicate, List.mem_cons, List.not_mem_nil, or_false] at hc
  lia
theorem runs_len : ∀ {ns : List Int} {B : Nat}, (∀ n ∈ ns, n ≤ (B : Int)) → (runsL ns).length ≤ ns.length * (B + 1)
  | [], _, _ => Nat.zero_le _
  | n :: r, B, h => by
    have ih := runs_len (ns := r) fun k hk => h k (List.mem_cons_of_mem _ hk)
    have h1 := h n List.mem_cons_self
    have e : runsL (n :: r) = run1 n ++ runsL r := rfl
    rw [e, List.length_append, run1_len, List.length_cons, Nat.add_mul]
    lia
theorem fm2 (a : Int) : 0 ≤ a.fmod 2 ∧ a.fmod 2 ≤ 1 := by
  rw [Int.fmod_eq_emod_of_nonneg _ (by decide)]; lia
theorem kd_eq (st tu : Nat) : ((st : Int).fdiv 2 + tu).fmod 2 = (((st / 2 + tu) % 2 : Nat) : Int) := by
  rw [Int.fmod_eq_emod_of_nonneg _ (by decide), Int.fdiv_eq_ediv_of_nonneg _ (by decide)]; lia
theorem kd_nat (st tu : Nat) : (((st : Int).fdiv 2 + tu).fmod 2).toNat = (st / 2 + tu) % 2 := by rw [kd_eq, Int.toNat_natCast]
theorem fm2n (a : Int) : (a.fmod 2).toNat ≤ 1 := by have := fm2 a; lia
section
variable {prog : Program} {w : World} {A : Around} {E : Value → Shared → Prop} {s : Shared} {g : Heap} {L : Addr} {led : List (Addr × Obj)} {l : Addr}
theorem item_at {value slice : Expr} {vs : List Value} {n i : Nat} {k : Int} {u : Tok} {x : Value} {Q : Value → Shared → Prop} (N : News g L s.heap led) (hq : (l, W.listOf vs.toArray n) ∈ led) (hk : k = (i : Int)) (h1 : i < 100000) (hx : vs[i]? = some x) (h : Q x s)
    (hs : subscripted slice false (.ref l) (.int k u) = operate [.ref l, .int k u] (getItem (.ref l) (.int k u)) := by with_unfolding_all rfl) :
    wpAny (model prog w) A (subscriptTail value slice (.ref l) (.int k u)) Q E s :=
  item_lst N hq (by lia) (by lia) (by rw [hk, Int.toNat_natCast]; exact hx) h hs
theorem item_last {value slice : Expr} {vs : List Value} {n : Nat} {k : Int} {u : Tok} {x : Value} {Q : Value → Shared → Prop} (N : News g L s.heap led) (hq : (l, W.listOf vs.toArray n) ∈ led) (hk : k = -1) (h0 : 0 < vs.length) (h1 : vs.length < 100000) (hx : vs[vs.length - 1]? = some x) (h : Q x s)
    (hs : subscripted slice false (.ref l) (.int k u) = operate [.ref l, .int k u] (getItem (.ref l) (.int k u)) := by with_unfolding_all rfl) :
    wpAny (model prog w) A (subscriptTail value slice (.ref l) (.int k u)) Q E s :=
  tail_any (listAt N hq).typeIs slot_list_getitem.lookup (wpAny_getItem_list_neg (listAt N hq) (by lia) (by rw [List.size_toArray]; lia) (by lia) (x := x) (by
    rw [List.size_toArray, hk, show ((-1 : Int) + (vs.length : Int)).toNat = vs.length - 1 by lia]; simpa using hx) h) hs
end
theorem dots_len (n : Nat) : (dots n).length = n + 1 := by simp [dots]
theorem sp_lessL {w : World} (x y : Addr) (d e : Ws) (a b o p k : Nat) (hd : WsOk (lead (a + 1) o k) d) (he : WsOk (lead (b + 1) p k) e) (ha : a ≤ 6) (hb : b ≤ 6) (ho : o ≤ 1) (hp : p ≤ 1) (hk : k ≤ 1) :
    Spec w 880 90 [.ref x, .ref y] (wsT w x d ++ wsT w y e) (fun v T' => v = .bool (decide (a < b)) ∧ T' = wsT w x d ++ wsT w y e) := by
  have h := sp_lessW (w := w) x y d e _ _ hd he (lead_len (by lia) ho) (lead_len (by lia) hp)
  rw [less_lead ha hb ho hp hk] at h
  exact h
noncomputable def hidL (k : Nat) (l : List Nat) : List Nat := if k = 0 then 32 :: l else if k = 1 then 92 :: l else 34 :: (l ++ [34])
theorem sp_hiddenI {w : World} (l : List Nat) (z : Int) (t u : Tok) (hl : l.length ≤ 1000) (h0 : 0 ≤ z) (h1 : z ≤ 2) : Spec w 900 199 [.str (Tx l) t, .int z u] [] (fun v T' => StrV v (hidL z.toNat l) ∧ T' = []) := by
  obtain rfl | rfl | rfl : z = 0 ∨ z = 1 ∨ z = 2 := by lia
  · have h := sp_hidden0 (w := w) (Tx l) t u (by rw [tx_len]; exact hl)
    rw [of_sp, tx_append] at h
    exact h
  · have h := sp_hidden1 (w := w) (Tx l) t u (by rw [tx_len]; exact hl)
    rw [of_bs, tx_append] at h
    exact h
  · have h := sp_hidden2 (w := w) (Tx l) t u (by rw [tx_len]; exact hl)
    rw [of_q, tx_append, tx_append] at h
    exact h
theorem fm3 (a : Int) : 0 ≤ a.fmod 3 ∧ a.fmod 3 ≤ 2 := by
  rw [Int.fmod_eq_emod_of_nonneg _ (by decide)]; lia
theorem of_eol0 : Str.ofString "\n" = Tx (eol 0) := by decide +kernel
theorem of_eol1 : Str.ofString "\r" = Tx (eol 1) := by decide +kernel
theorem of_eol2 : Str.ofString "\r\n" = Tx (eol 2) := by decide +kernel
theorem eol_at {t1 t2 t3 : Tok} {k : Nat} (h : k ≤ 2) : ∃ t, [Value.str (Str.ofString "\n") t1, .str (Str.ofString "\r") t2, .str (Str.ofString "\r\n") t3][k]? = some (.str (Tx (eol k)) t) := by
  rw [of_eol0, of_eol1, of_eol2]
  obtain rfl | rfl | rfl : k = 0 ∨ k = 1 ∨ k = 2 := by lia
  · exact ⟨_, rfl⟩
  · exact ⟨_, rfl⟩
  · exact ⟨_, rfl⟩
theorem f3_nat {a : Int} {n : Nat} (h : a = (n : Int)) : (a.fmod 3).toNat = n % 3 := by
  rw [Int.fmod_eq_emod_of_nonneg _ (by decide), h]; lia
section
variable {prog : Program} {w : World} {A : Around} {E : Value → Shared → Prop} {s : Shared} {g : Heap} {L : Addr} {led : List (Addr × Obj)} {l : Addr}
theorem add_tx {a b : List Nat} {x y : Str} {t u : Tok} {Q : Value → Shared → Prop} (hx : x = Tx a) (hy : y = Tx b) (hl : a.length ≤ 2000) (hm : b.length ≤ 2000) (k : ∀ t' tk, Q (.str (Tx (a ++ b)) t') { s with toks := tk }) : wpAny (model prog w) A (binaryOp .Add (.str x t) (.str y u)) Q E s := by
  subst hx hy
  exact PyProof.Rows.add_str (fun t' tk => by rw [tx_append]; exact k t' tk) (size_line (by rw [tx_len, tx_len]; lia))
theorem iadd_txs {a b : List Nat} {x y : Str} {t u : Tok} {Q : Value → Shared → Prop} (hx : x = Tx a) (hy : y = Tx b) (hl : a.length ≤ 2000) (hm : b.length ≤ 2000) (k : ∀ t' tk, Q (.str (Tx (a ++ b)) t') { s with toks := tk }) : wpAny (model prog w) A (inplaceOp .Add (.str x t) (.str y u)) Q E s := by
  subst hx hy
  exact PyProof.Rows.iadd_str (fun t' tk => by rw [tx_append]; exact k t' tk) (size_line (by rw [tx_len, tx_len]; lia))
theorem eol_item {value slice : Expr} {t1 t2 t3 : Tok} {n i : Nat} {k : Int} {u : Tok} {Q : Value → Shared → Prop} (N : News g L s.heap led) (hq : (l, W.listOf [Value.str (Str.ofString "\n") t1, .str (Str.ofString "\r") t2, .str (Str.ofString "\r\n") t3].toArray n) ∈ led) (hk : k = (i : Int)) (h1 : i ≤ 2) (h : ∀ t, Q (.str (Tx (eol i)) t) s)
    (hs : subscripted slice false (.ref l) (.int k u) = operate [.ref l, .int k u] (getItem (.ref l) (.int k u)) := by with_unfolding_all rfl) :
    wpAny (model prog w) A (subscriptTail value slice (.ref l) (.int k u)) Q E s := by
  obtain ⟨t, ht⟩ := eol_at (t1 := t1) (t2 := t2) (t3 := t3) h1
  exact item_at N hq hk (by lia) ht (h t) hs
end
theorem eol_len (k : Nat) : (eol k).length ≤ 2 := by unfold eol; split <;> (try split) <;> simp
theorem f3_at {st tu i : Nat} : (((i : Int) + st + (tu : Int).fdiv 3).fmod 3) = (((i + st + tu / 3) % 3 : Nat) : Int) := by
  rw [Int.fmod_eq_emod_of_nonneg _ (by decide), Int.fdiv_eq_ediv_of_nonneg _ (by decide)]; lia
theorem bit_is (b : Bool) : (Tx (bitW b) == Str.ofString "1") = b := by cases b <;> decide +kernel
end
section
noncomputable def cat {α : Type} : List (List α) → List α
  | [] => []
  | [b] => b
  | b :: c :: r => b ++ cat (c :: r)
theorem cat_eq {α : Type} : ∀ bs : List (List α), cat bs = bs.flatten
  | [] => rfl
  | [b] => by simp [cat]
  | b :: c :: r => by rw [cat, cat_eq (c :: r)]; rfl
noncomputable def pick {α : Type} (bs : List (List α)) (idx : List Nat) : List (List α) := idx.map fun k => bs.getD k []
theorem pick_all {α : Type} (bs : List (List α)) : pick bs (List.range bs.length) = bs := by
  unfold pick
  apply List.ext_getElem?
  intro i
  rw [List.getElem?_map]
  rcases Nat.lt_or_ge i bs.length with h | h
  · rw [List.getElem?_range h]; simp [List.getD_eq_getElem?_getD, List.getElem?_eq_getElem h]
  · rw [List.getElem?_eq_none (by simpa using h), List.getElem?_eq_none h]; rfl
theorem take_blocks (bs : List (List (Addr × Obj))) (n : Nat) (hn : bs.length = n) (idx rest : List Nat) (h : (idx ++ rest).isPerm (List.range n) = true) : TakeAll (cat bs) (cat (pick bs idx)) (cat (pick bs rest)) := by
  subst hn
  refine .byPerm ?_
  rw [cat_eq, cat_eq, cat_eq, ← List.flatten_append]
  have p := (List.isPerm_iff.mp h).symm
  have q := p.map fun k => bs.getD k []
  rw [List.map_append] at q
  have e := pick_all bs
  unfold pick at e ⊢
  rw [e] at q
  exact q.flatten
noncomputable def itsOf (ds : List Nat) (bare : Nat → Bool) (w : Nat) : List (Nat × Nat) := (List.range ds.length).map fun i => (if bare i then 0 else (i + w) % 3 + 1, ds.getD i 0)
noncomputable def txU (its : List (Nat × Nat)) (e i : Nat) : List Nat := ((List.range i).map fun k => textP (its.getD k (0, 0)) ++ eol ((k + e) % 3)).flatten
noncomputable def snU (its : List (Nat × Nat)) (i : Nat) : List Nat := ((its.take i).map fun p => sentP p ++ [13, 10]).flatten
theorem its_len (ds : List Nat) (bare : Nat → Bool) (w : Nat) : (itsOf ds bare w).length = ds.length := by simp [itsOf]
theorem its_at {ds : List Nat} {bare : Nat → Bool} {w i : Nat} (h : i < ds.length) : (itsOf ds bare w)[i]? = some (if bare i then 0 else (i + w) % 3 + 1, ds.getD i 0) := by
  unfold itsOf; rw [List.getElem?_map, List.getElem?_range h]; rfl
theorem txU_next {its : List (Nat × Nat)} {e i : Nat} {p : Nat × Nat} (h : its[i]? = some p) : txU its e (i + 1) = txU its e i ++ (textP p ++ eol ((i + e) % 3)) := by
  unfold txU; rw [List.range_succ, List.map_append, List.flatten_append]; simp [List.getD_eq_getElem?_getD, h]
theorem snU_next {its : List (Nat × Nat)} {i : Nat} {p : Nat × Nat} (h : its[i]? = some p) : snU its (i + 1) = snU its i ++ (sentP p ++ [13, 10]) := by
  unfold snU; rw [List.take_add_one, h]; simp
theorem txU_all (its : List (Nat × Nat)) (e : Nat) : txU its e its.length = textL its e := rfl
theorem snU_all (its : List (Nat × Nat)) : snU its its.length = sentL its := by unfold snU sentL; rw [List.take_length]
theorem sentP_len (p : Nat × Nat) : (sentP p).length ≤ p.2 + 3 := by
  obtain ⟨k, d⟩ := p
  match k with
  | 0 => simp [sentP, dots]
  | 1 => simp [sentP, dots]
  | 2 => simp [sentP, dots]
  | _ + 3 => simp [sentP, dots]
theorem textP_len (p : Nat × Nat) : (textP p).length ≤ p.2 + 3 := by
  unfold textP; split
  · rw [dots_len]; lia
  · exact sentP_len p
theorem flat_len {α : Type} (f : α → List Nat) (B : Nat) : ∀ l : List α, (∀ x ∈ l, (f x).length ≤ B) → ((l.map f).flatten).length ≤ B * l.length
  | [], _ => Nat.zero_le _
  | x :: r, h => by
    have ih := flat_len f B r fun y hy => h y (List.mem_cons_of_mem _ hy)
    have := h x List.mem_cons_self
    rw [List.map_cons, List.flatten_cons, List.length_append, List.length_cons, Nat.mul_add]; lia
theorem snd_le {ds : List Nat} (hd : ∀ d ∈ ds, d ≤ 6) (bare : Nat → Bool) (w : Nat) : ∀ p ∈ itsOf ds bare w, p.2 ≤ 6 := by
  intro p hp
  obtain ⟨i, hi, rfl⟩ := List.mem_map.mp hp
  have hi := List.mem_range.mp hi
  show ds.getD i 0 ≤ 6
  rw [List.getD_eq_getElem?_getD, List.getElem?_eq_getElem hi]
  exact hd _ (List.getElem_mem hi)
theorem txU_len {its : List (Nat × Nat)} (h : ∀ p ∈ its, p.2 ≤ 6) (e i : Nat) (hi : i ≤ 6) : (txU its e i).length ≤ 100 := by
  have := flat_len (fun k => textP (its.getD k (0, 0)) ++ eol ((k + e) % 3)) 11 (List.range i) fun k _ => by
    have a := textP_len (its.getD k (0, 0))
    have b := eol_len ((k + e) % 3)
    have c : (its.getD k (0, 0)).2 ≤ 6 := by
      rw [List.getD_eq_getElem?_getD]
      cases q : its[k]? with
      | none => simp
      | some p => exact h p (List.mem_of_getElem? q)
    rw [List.length_append]; lia
  rw [List.length_range] at this
  unfold txU; lia
theorem snU_len {its : List (Nat × Nat)} (h : ∀ p ∈ its, p.2 ≤ 6) (i : Nat) (hi : i ≤ 6) : (snU its i).length ≤ 100 := by
  have := flat_len (fun p => sentP p ++ [13, 10]) 11 (its.take i) fun p hp => by
    have a := sentP_len p
    have b := h p (List.mem_of_mem_take hp)
    rw [List.length_append]; simp; lia
  have c : (its.take i).length ≤ i := by rw [List.length_take]; lia
  unfold snU; lia
theorem hid_sent {k d : Nat} (h : k ≤ 2) : hidL k (dots d) = sentP (k + 1, d) := by
  obtain rfl | rfl | rfl : k = 0 ∨ k = 1 ∨ k = 2 := by lia
  all_goals rfl
theorem txs_get {vs : List Value} {ls : List (List Nat)} (h : TxsAre vs ls) {i : Nat} {l : List Nat} (hl : ls[i]? = some l) : ∃ t, vs[i]? = some (.str (Tx l) t) := by
  have hlen : vs.length = ls.length := by have := StrsAre.length h; rwa [List.length_map] at this
  have hi : i < ls.length := by
    rcases Nat.lt_or_ge i ls.length with h | h
    · exact h
    · rw [List.getElem?_eq_none h] at hl; cases hl
  obtain ⟨y, t, e, q⟩ := strs_at h i vs[i] (List.getElem?_eq_getElem (by lia))
  rw [List.getElem?_map, hl] at q
  cases q
  exact ⟨t, by rw [List.getElem?_eq_getElem (by lia), e]⟩
theorem gv_next {its : List (Nat × Nat)} {gv : List Value} {i : Nat} {p : Nat × Nat} {l : List Nat} {t : Tok} (h : TxsAre gv ((its.take i).map tokP)) (hp : its[i]? = some p) (hl : l = tokP p) : TxsAre (gv ++ [.str (Tx l) t]) ((its.take (i + 1)).map tokP) := by
  subst hl
  rw [List.take_add_one, hp, List.map_append]
  simpa [TxsAre] using strs_app h (.cons (Tx (tokP p)) t .nil)
theorem tx_step {ds : List Nat} {bare : Nat → Bool} {w e i : Nat} (h : i < ds.length) : txU (itsOf ds bare w) e i ++ ((if bare i then dots (ds.getD i 0) else hidL ((i + w) % 3) (dots (ds.getD i 0))) ++ eol ((i + e) % 3)) = txU (itsOf ds bare w) e (i + 1) := by
  rw [txU_next (its_at h), hid_sent (by lia)]
  cases bare i <;> rfl
theorem sn_step {ds : List Nat} {bare : Nat → Bool} {w i : Nat} (h : i < ds.length) : snU (itsOf ds bare w) i ++ ((if bare i then (if bare i then 46 :: dots (ds.getD i 0) else dots (ds.getD i 0)) else hidL ((i + w) % 3) (dots (ds.getD i 0))) ++ [13, 10]) = snU (itsOf ds bare w) (i + 1) := by
  rw [snU_next (its_at h), hid_sent (by lia)]
  cases bare i <;> rfl
theorem tok_step (ds : List Nat) (bare : Nat → Bool) (w i : Nat) : (if bare i then 46 :: dots (ds.getD i 0) else dots (ds.getD i 0)) = tokP (if bare i then 0 else (i + w) % 3 + 1, ds.getD i 0) := by
  cases bare i <;> rfl
theorem rot_eq {t n : Nat} (ht : 1 ≤ t) : (2 * (n : Int)).fmod (2 ^ (t : Int).toNat) + (n : Int).fdiv (2 ^ ((t : Int) - 1).toNat) = ((rotN t n : Nat) : Int) := by
  have e : ((t : Int) - 1).toNat = t - 1 := by lia
  have p : ∀ k : Nat, (0 : Int) ≤ 2 ^ k := fun k => by exact_mod_cast Nat.zero_le (2 ^ k)
  rw [e, Int.toNat_natCast, Int.fmod_eq_emod_of_nonneg _ (p t), Int.fdiv_eq_ediv_of_nonneg _ (p (t - 1))]
  unfold rotN
  rw [Int.natCast_add, Int.natCast_emod, Int.natCast_ediv, Int.natCast_mul, Int.natCast_pow, Int.natCast_pow]
  rfl
noncomputable abbrev HT := Addr × List Nat × Nat × Tok × Tok
noncomputable def hearT (hs : List HT) : List (Addr × Obj) := hs.map fun p => (p.1, tupOf [.str (Tx p.2.1) p.2.2.2.1, .int (p.2.2.1 : Int) p.2.2.2.2] 0)
noncomputable def hearV (hs : List HT) : List Value := hs.reverse.map fun p => .ref p.1
noncomputable def hearD (hs : List HT) : List (List Nat × Nat) := hs.reverse.map fun p => (p.2.1, p.2.2.1)
theorem hearV_cons (p : HT) (hs : List HT) : hearV (p :: hs) = hearV hs ++ [.ref p.1] := by simp [hearV]
theorem hearD_cons (p : HT) (hs : List HT) : hearD (p :: hs) = hearD hs ++ [(p.2.1, p.2.2.1)] := by simp [hearD]
theorem hearD_next {hs : List HT} {tk : Nat → List Nat} {k : Nat} {p : HT} (h : hearD hs = (List.range k).map fun i => (tk i, i + 1)) (h1 : p.2.1 = tk k) (h2 : p.2.2.1 = k + 1) : hearD (p :: hs) = (List.range (k + 1)).map fun i => (tk i, i + 1) := by
  rw [hearD_cons, h, List.range_succ, List.map_append, h1, h2]; rfl
theorem hearT_cons (p : HT) (hs : List HT) : hearT (p :: hs) = (p.1, tupOf [.str (Tx p.2.1) p.2.2.2.1, .int (p.2.2.1 : Int) p.2.2.2.2] 0) :: hearT hs := rfl
noncomputable def tupD (p : List Nat × Nat) : PyData := .tuple [.str (Tx p.1), .int (p.2 : Int)]
theorem rd_tup {led : List (Addr × Obj)} {a : Addr} {l : List Nat} {k : Nat} {z : Int} {t u : Tok} {n : Nat} (hz : z = (k : Int)) (h : (a, tupOf [.str (Tx l) t, .int z u] n) ∈ led) : Rd led (.ref a) (tupD (l, k)) := by
  subst hz
  exact Rd.tup h (RdA.cons (Rd.str _ _) (RdA.cons (Rd.int _ _) RdA.nil))
theorem hear_rd {led : List (Addr × Obj)} : ∀ {hs : List HT}, (∀ p ∈ hearT hs, p ∈ led) → RdA led (hearV hs) ((hearD hs).map tupD)
  | [], _ => RdA.nil
  | p :: hs, h => by
    rw [hearV_cons, hearD_cons, List.map_append]
    exact RdA.snoc (hear_rd fun q hq => h q (List.mem_cons_of_mem _ hq)) (rd_tup rfl (h _ List.mem_cons_self))
theorem eqv_tups (l : List (List Nat × Nat)) : PyData.eqv (.list (l.map tupD)) (.list (l.map tupD)) = true := by
  rw [PyData.eqv]
  induction l with
  | nil => simp [PyData.eqvAll]
  | cons p r ih =>
    rw [List.map_cons, PyData.eqvAll]
    rw [ih]
    simp [tupD, PyData.eqv, PyData.eqvAll]
theorem sh_tups {l : List (List Nat × Nat)} (h : ∀ p ∈ l, ∀ c ∈ p.1, c < 128) : Sh 3 (.list (l.map tupD)) := by
  refine Sh.list (ShA.all fun d hd => ?_)
  obtain ⟨p, hp, rfl⟩ := List.mem_map.mp hd
  exact Sh.tup (ShA.cons (Sh.str (h p hp)) (ShA.cons (Sh.int _) ShA.nil))
section
variable {prog : Program} {w : World} {A : Around} {E : Value → Shared → Prop} {s : Shared} {g : Heap} {L : Addr} {m : Str → Option Value} {led : List (Addr × Obj)}
theorem add_lst {l b : Addr} {vs ws : List Value} {n k : Nat} {Q : Value → Shared → Prop} (F : Fr g L s.heap m) (N : News g L s.heap led) (hl : (l, W.listOf vs.toArray n) ∈ led) (hb : (b, W.listOf ws.toArray k) ∈ led) (h1 : vs.length ≤ 10000) (h2 : ws.length ≤ 10000)
    (h : ∀ D h', Fr g L h' m → News g L h' ((D, W.listOf (vs ++ ws).toArray 0) :: led) → (∀ p ∈ led, p.1 < D) → Q (.ref D) { s with heap := h' }) : wpAny (model prog w) A (binaryOp .Add (.ref l) (.ref b)) Q E s := by
  refine add_lists F N (listAt N hl) (listAt N hb) (fun h' F' N' => ?_) (size_line (by lia))
  exact h _ h' F' N' fun p hp => Heap.lt_size (N p hp).1
end
theorem ints_row {ds : List Nat} {i : Nat} {ys : List Value} {z : Int} {t : Tok} (hil : i < ds.length) (h : IntsAre ys ((intsN ds).take i)) (hz : z = (ds[i] : Int)) : IntsAre (ys ++ [.int z t]) ((intsN ds).take (i + 1)) := by
  rw [List.take_add_one]
  have e : (intsN ds)[i]? = some (ds[i] : Int) := by unfold intsN; rw [List.getElem?_map, List.getElem?_eq_getElem hil]; rfl
  rw [e, hz]
  exact ints_app h (.cons _ _ .nil)
theorem ints_le {ds : List Nat} {B : Nat} (h : ∀ d ∈ ds, d ≤ 6) (hB : 6 ≤ B) : ∀ n ∈ intsN ds, n ≤ (B : Nat) := by
  intro n hn
  obtain ⟨d, hd, rfl⟩ := List.mem_map.mp hn
  have := h d hd
  show (d : Int) ≤ _
  lia
theorem ints_ge (ds : List Nat) : ∀ n ∈ intsN ds, 0 ≤ n := by
  intro n hn
  obtain ⟨d, hd, rfl⟩ := List.mem_map.mp hn
  show (0 : Int) ≤ (d : Int)
  lia
noncomputable def lackW (cs : List Int) (k : Nat) : List Nat := (List.range k).filter fun n => decide (cs.length ≤ n) || decide (cs.getD n 0 = 0)
theorem filt_yes {p : Nat → Bool} {k : Nat} {ys : List Value} {z : Int} {t : Tok} (h : IntsAre ys (intsN ((List.range k).filter p))) (hp : p k = true) (hz : z = (k : Int)) : IntsAre (ys ++ [.int z t]) (intsN ((List.range (k + 1)).filter p)) := by
  subst hz
  rw [List.range_succ, List.filter_append]
  simp only [List.filter_cons, hp, if_true, List.filter_nil, intsN, List.map_append]
  exact ints_app h (.cons _ _ .nil)
theorem filt_no {p : Nat → Bool} {k : Nat} {ys : List Value} (h : IntsAre ys (intsN ((List.range k).filter p))) (hp : p k = false) : IntsAre ys (intsN ((List.range (k + 1)).filter p)) := by
  rw [List.range_succ, List.filter_append]
  simp only [List.filter_cons, hp, List.filter_nil, Bool.false_eq_true, if_false, List.append_nil]
  exact h
theorem grown_ne (l : List Nat) (b : Bool) : (Tx (if b then 46 :: l else l) != Tx l) = b := by
  cases b
  · simp
  · simp only [if_true, bne_iff_ne, ne_eq]
    intro e
    have := congrArg List.length (tx_inj e)
    simp at this
theorem places_eq {hi : Nat} {ls as : List Nat} {x y : List Value} (h : IntsAre x (intsN as)) (k : IntsAre y ((intsN ls).map ((hi : Int) + ·))) : IntsAre (x ++ y) (intsN (as ++ ls.map (hi + ·))) := by
  have e : (intsN ls).map ((hi : Int) + ·) = intsN (ls.map (hi + ·)) := by
    unfold intsN; rw [List.map_map, List.map_map]
    apply List.map_congr_left
    intro a _
    show (hi : Int) + (a : Int) = ((hi + a : Nat) : Int)
    lia
  rw [e] at k
  have := ints_app h k
  unfold intsN at this ⊢
  rwa [List.map_append]
theorem setL_some {v : Value} : ∀ {l : List Value} {k : Nat}, k < l.length → ki_setL l k v = some (l.set k v)
  | [], k, h => by simp at h
  | x :: r, 0, _ => rfl
  | x :: r, k + 1, h => by
    have := setL_some (v := v) (l := r) (k := k) (by simpa using h)
    simp [ki_setL, this]
section
variable {prog : Program} {w : World} {A : Around} {E : Value → Shared → Prop} {s : Shared} {g : Heap} {L : Addr} {m : Str → Option Value} {led led' : List (Addr × Obj)}
theorem set_at {l : Addr} {vs : List Value} {n i : Nat} {k : Int} {t : Tok} {v : Value} {Q : Unit → Shared → Prop} (F : Fr g L s.heap m) (N : News g L s.heap led) (hk : k = (i : Int)) (hi : i < 100000) (hl : i < vs.length) (U : Upd l (W.listOf vs.toArray n) (W.listOf (vs.set i v).toArray n) led led')
    (h : ∀ h', Fr g L h' m → News g L h' led' → Q () { s with heap := h' }) : wpAny (model prog w) A (setItem (.ref l) (.int k t) v) Q E s :=
  ki_set F N (by lia) (by lia) (q := vs.set i v) (by rw [hk, Int.toNat_natCast]; exact setL_some hl) U h
end
end
section
theorem down_ok : ∀ h : Nat, h < 7 → Builtin.Range.small ((h : Int) - 1) (-1) (-1) = true ∧ Builtin.Range.rangeSize ((h : Int) - 1) (-1) (-1) = (h : Int) := by decide +kernel
noncomputable def heldK (ds : List Nat) (bare : Nat → Bool) (hi : Nat) : Nat → Nat
  | 0 => 0
  | k + 1 => if bare (hi - 1 - k) then ds.getD (hi - 1 - k) 0 + 1 else heldK ds bare hi k
noncomputable def rowsK (ds : List Nat) (bare : Nat → Bool) (hi k : Nat) : List Nat := (List.range hi).map fun i => if hi - k ≤ i then heldK ds bare hi (hi - i) else ds.getD i 0
theorem rowsK_zero (ds : List Nat) (bare : Nat → Bool) : rowsK ds bare ds.length 0 = ds := by
  unfold rowsK
  apply List.ext_getElem?
  intro i
  rw [List.getElem?_map]
  rcases Nat.lt_or_ge i ds.length with h | h
  · rw [List.getElem?_range h]
    simp only [Option.map_some, Nat.sub_zero]
    rw [if_neg (by lia), List.getD_eq_getElem?_getD, List.getElem?_eq_getElem h]; rfl
  · rw [List.getElem?_eq_none (by simpa using h), List.getElem?_eq_none h]; rfl
theorem rowsK_at {ds : List Nat} {bare : Nat → Bool} {hi k i : Nat} (h : i < hi) (hk : ¬ hi - k ≤ i) : (rowsK ds bare hi k)[i]? = some (ds.getD i 0) := by
  unfold rowsK; rw [List.getElem?_map, List.getElem?_range h, Option.map_some, if_neg hk]
theorem rowsK_len (ds : List Nat) (bare : Nat → Bool) (hi k : Nat) : (rowsK ds bare hi k).length = hi := by simp [rowsK]
theorem rowsK_next {ds : List Nat} {bare : Nat → Bool} {hi k i : Nat} (hk : k < hi) (hi' : i = hi - 1 - k) : (rowsK ds bare hi k).set i (heldK ds bare hi (k + 1)) = rowsK ds bare hi (k + 1) := by
  unfold rowsK
  apply List.ext_getElem?
  intro j
  rw [List.getElem?_set, List.getElem?_map, List.getElem?_map, List.length_map, List.length_range]
  rcases Nat.lt_or_ge j hi with h | h
  · rw [List.getElem?_range h]
    simp only [Option.map_some]
    by_cases e : i = j
    · rw [if_pos e, if_pos (by lia), if_pos (by lia)]
      rw [show hi - j = k + 1 by lia]
    · rw [if_neg e]
      by_cases q : hi - k ≤ j
      · rw [if_pos q, if_pos (by lia)]
      · rw [if_neg q, if_neg (by lia)]
  · rw [if_neg (by lia), List.getElem?_eq_none (by simpa using h)]; rfl
theorem txs_set {ys : List Value} {ls : List (List Nat)} {l : List Nat} {t : Tok} (h : TxsAre ys ls) : ∀ i, TxsAre (ys.set i (.str (Tx l) t)) (ls.set i l) := by
  unfold TxsAre at h ⊢
  generalize hq : ls.map Tx = xs at h
  induction h generalizing ls with
  | nil => intro i; cases ls with
    | nil => exact .nil
    | cons a b => cases hq
  | cons y u r ih =>
    intro i
    cases ls with
    | nil => cases hq
    | cons a b =>
      rw [List.map_cons] at hq
      injection hq with h1 h2
      subst h1
      cases i with
      | zero => rw [List.set_cons_zero, List.set_cons_zero, List.map_cons, h2]; exact .cons _ _ r
      | succ i => rw [List.set_cons_succ, List.set_cons_succ, List.map_cons]; exact .cons _ _ (ih h2 i)
noncomputable abbrev runsT (rs : List (Addr × List Value × Nat)) : List (Addr × Obj) := rs.map fun p => (p.1, W.listOf p.2.1.toArray p.2.2)
noncomputable def RunsOk (rs : List (Addr × List Value × Nat)) (f : Nat → List Nat) : Prop := ∀ (i : Nat) (p : Addr × List Value × Nat), rs[i]? = some p → IntsAre p.2.1 (intsN (f i))
theorem runs_cut {rs : List (Addr × List Value × Nat)} {i : Nat} (h : i < rs.length) : ∃ A p B, rs = A ++ p :: B ∧ A.length = i ∧ rs[i]? = some p :=
  ⟨rs.take i, rs[i], rs.drop (i + 1), by rw [← List.drop_eq_getElem_cons h, List.take_append_drop], by rw [List.length_take]; lia, List.getElem?_eq_getElem h⟩
theorem runs_next {A B : List (Addr × List Value × Nat)} {p : Addr × List Value × Nat} {f f' : Nat → List Nat} {i d n : Nat} {t : Tok} (h : RunsOk (A ++ p :: B) f) (hA : A.length = i) (h1 : f' i = f i ++ [d]) (h2 : ∀ j, j ≠ i → f' j = f j) : RunsOk (A ++ (p.1, p.2.1 ++ [.int (d : Int) t], n) :: B) f' := by
  intro j q hq
  rcases Nat.lt_trichotomy j i with hj | hj | hj
  · rw [List.getElem?_append_left (by lia)] at hq
    rw [h2 j (by lia)]
    exact h j q (by rw [List.getElem?_append_left (by lia)]; exact hq)
  · subst hj
    rw [List.getElem?_append_right (by lia), hA, Nat.sub_self] at hq
    cases hq
    rw [h1]
    have := h j p (by rw [List.getElem?_append_right (by lia), hA, Nat.sub_self]; rfl)
    have e : intsN (f j ++ [d]) = intsN (f j) ++ [(d : Int)] := by simp [intsN]
    rw [e]
    exact ints_app this (.cons _ _ .nil)
  · rw [h2 j (by lia)]
    have e : j - i = (j - i - 1) + 1 := by lia
    rw [List.getElem?_append_right (by lia), hA, e, List.getElem?_cons_succ] at hq
    exact h j q (by rw [List.getElem?_append_right (by lia), hA, e, List.getElem?_cons_succ]; exact hq)
theorem hear_get {hs : List HT} {n : Nat} {f : Nat → List Nat × Nat} (h : hearD hs = (List.range n).map f) {i : Nat} (hi : i < n) : ∃ a t1 t2, (hearV hs)[i]? = some (.ref a) ∧ (a, tupOf [.str (Tx (f i).1) t1, .int ((f i).2 : Int) t2] 0) ∈ hearT hs := by
  unfold hearD at h
  have hl : hs.reverse.length = n := by have := congrArg List.length h; simpa using this
  have h1 : hs.reverse[i]? = some (hs.reverse[i]'(by lia)) := List.getElem?_eq_getElem (by lia)
  generalize hs.reverse[i]'(by lia) = p at h1
  have h2 : (p.2.1, p.2.2.1) = f i := by
    have := congrArg (fun l : List (List Nat × Nat) => l[i]?) h
    rw [List.getElem?_map, List.getElem?_map, h1, List.getElem?_range hi] at this
    simpa using this
  refine ⟨p.1, p.2.2.2.1, p.2.2.2.2, ?_, ?_⟩
  · unfold hearV; rw [List.getElem?_map, h1]; rfl
  · rw [← h2]
    unfold hearT
    exact List.mem_map.mpr ⟨p, List.mem_reverse.mp (List.mem_of_getElem? h1), rfl⟩
theorem runsT_cut (A B : List (Addr × List Value × Nat)) (p : Addr × List Value × Nat) (R : List (Addr × Obj)) : runsT (A ++ p :: B) ++ R = runsT A ++ ((p.1, W.listOf p.2.1.toArray p.2.2) :: (runsT B ++ R)) := by simp [runsT]
theorem of_dot_dots : Str.ofString "." = Tx (dots 0) := of_dot
theorem txs_rev {vs : List Value} {ls : List (List Nat)} (h : TxsAre vs ls) : TxsAre vs.reverse ls.reverse := by
  unfold TxsAre at h ⊢
  rw [List.map_reverse]
  generalize ls.map Tx = ys at h
  induction h with
  | nil => exact .nil
  | cons y t _ ih => rw [List.reverse_cons, List.reverse_cons]; exact strs_app ih (.cons y t .nil)
theorem ring_turn {vs vs' vs1 : List Value} {v1 : Value} {bl : List Bool} (h : TxsAre vs (bl.reverse.map bitW)) (e : vs = v1 :: vs1) (e' : vs' = vs1 ++ [v1]) : TxsAre vs' ((bl.dropLast.reverse ++ [bl.getLastD false]).map bitW) := by
  subst e e'
  have hb : bl.reverse = bl.getLastD false :: bl.dropLast.reverse := by
    rcases List.eq_nil_or_concat bl with rfl | ⟨l, b, rfl⟩
    · cases h
    · simp
  rw [hb, List.map_cons] at h
  cases h with
  | cons y t h =>
    rw [List.map_append]
    simpa [TxsAre] using strs_app h (.cons _ t .nil)
theorem ints_leB {ds : List Nat} {K B : Nat} (h : ∀ d ∈ ds, d ≤ K) (hB : K ≤ B) : ∀ n ∈ intsN ds, n ≤ (B : Nat) := by
  intro n hn
  obtain ⟨d, hd, rfl⟩ := List.mem_map.mp hn
  have := h d hd
  show (d : Int) ≤ _
  lia
theorem runsN_len {ds : List Nat} (hl : ds.length ≤ 6) (h : ∀ d ∈ ds, d ≤ 6) : (runsL (intsN ds)).length ≤ 200 := by
  have := runs_len (ns := intsN ds) (B := 6) (ints_le h (by decide))
  have e : (intsN ds).length = ds.length := by simp [intsN]
  rw [e] at this; lia
theorem runsN_lenB {ds : List Nat} (hl : ds.length ≤ 6) (h : ∀ d ∈ ds, d ≤ 12) : (runsL (intsN ds)).length ≤ 200 := by
  have := runs_len (ns := intsN ds) (B := 12) (ints_leB h (by decide))
  have e : (intsN ds).length = ds.length := by simp [intsN]
  rw [e] at this; lia
theorem lack_row {lc : List Nat} {wd j d : Nat} {ys : List Value} {t : Tok} (h : IntsAre ys ((intsN (lc.map (wd - ·))).take j)) (hk : lc[j]? = some d) (hd : d ≤ wd) : IntsAre (ys ++ [.int ((wd : Int) - (d : Int)) t]) ((intsN (lc.map (wd - ·))).take (j + 1)) := by
  rw [List.take_add_one]
  have e : (intsN (lc.map (wd - ·)))[j]? = some ((wd : Int) - (d : Int)) := by
    unfold intsN
    rw [List.getElem?_map, List.getElem?_map, hk]
    show some ((wd - d : Nat) : Int) = _
    rw [Int.ofNat_sub hd]
  rw [e]
  exact ints_app h (.cons _ _ .nil)
theorem of_sp2 : Str.ofString "  " = Tx [32, 32] := by decide +kernel
theorem fmP (a : Int) {b : Int} (h : 0 < b) : 0 ≤ a.fmod b ∧ a.fmod b < b := by
  rw [Int.fmod_eq_emod_of_nonneg _ (Int.le_of_lt h)]
  exact ⟨Int.emod_nonneg _ (by lia), Int.emod_lt_of_pos _ h⟩
theorem half_eq (hi tu : Nat) (h : 1 ≤ hi) : (tu : Int).fmod (((hi : Int) + 1).fdiv 2) = ((tu % ((hi + 1) / 2) : Nat) : Int) := by
  have e : ((hi : Int) + 1).fdiv 2 = (((hi + 1) / 2 : Nat) : Int) := by
    rw [Int.fdiv_eq_ediv_of_nonneg _ (by decide)]; lia
  rw [e, Int.fmod_eq_emod_of_nonneg _ (Int.natCast_nonneg _)]
  lia
theorem intsN_get {vs : List Value} {mc : List Nat} (h : IntsAre vs (intsN mc)) {i : Nat} (hi : i < mc.length) : ∃ t, vs[i]? = some (.int ((mc.getD i 0 : Nat) : Int) t) := by
  obtain ⟨t, ht⟩ := h.get i ((mc.getD i 0 : Nat) : Int) (by unfold intsN; rw [List.getElem?_map, List.getD_eq_getElem?_getD, List.getElem?_eq_getElem hi]; rfl)
  exact ⟨t, ht⟩
theorem half_pos (hi : Nat) (h : 1 ≤ hi) : 1 ≤ ((hi : Int) + 1).fdiv 2 := by
  rw [Int.fdiv_eq_ediv_of_nonneg _ (by decide)]; lia
noncomputable def IxAt (vs : List Value) (k : Int) (x : Value) : Prop := ∃ i : Nat, k = (i : Int) ∧ i < 100000 ∧ vs[i]? = some x
theorem intsN_ix {vs : List Value} {mc : List Nat} (h : IntsAre vs (intsN mc)) {i : Nat} {k : Int} (hk : k = (i : Int)) (hi : i < mc.length) (hb : i < 100000) : ∃ t, IxAt vs k (.int ((mc.getD i 0 : Nat) : Int) t) := by
  obtain ⟨t, ht⟩ := intsN_get h hi
  exact ⟨t, i, hk, hb, ht⟩
section
variable {prog : Program} {w : World} {A : Around} {E : Value → Shared → Prop} {s : Shared} {g : Heap} {L : Addr} {led : List (Addr × Obj)} {l : Addr}
theorem item_ix {value slice : Expr} {vs : List Value} {n : Nat} {k : Int} {u : Tok} {x : Value} {Q : Value → Shared → Prop} (N : News g L s.heap led) (hq : (l, W.listOf vs.toArray n) ∈ led) (hx : IxAt vs k x) (h : Q x s)
    (hs : subscripted slice false (.ref l) (.int k u) = operate [.ref l, .int k u] (getItem (.ref l) (.int k u)) := by with_unfolding_all rfl) :
    wpAny (model prog w) A (subscriptTail value slice (.ref l) (.int k u)) Q E s := by
  obtain ⟨i, hk, hb, hx⟩ := hx
  exact item_at N hq hk hb hx h hs
end
theorem slice_upto (vs : List Value) (b : Nat) : (slicePick vs.toArray none (some (b : Int)) none).toList = vs.take b := by
  rw [slicePick_upto']
theorem slice_from (vs : List Value) {z : Int} {a : Nat} (h : z = (a : Int)) : (slicePick vs.toArray (some z) none none).toList = vs.drop a := by
  subst h
  rw [slicePick_plain]
  simp only [Option.elim, clipAt_nat]
  have e := take_drop_clip vs a vs.length
  rw [Nat.min_self] at e
  refine e.trans ?_
  exact List.take_of_length_le (by simp)
theorem moved_ok {vs us1 us2 : List Value} {mc : List Nat} {q : Nat} {t1 t2 : Tok} (h : IntsAre vs (intsN mc)) (e1 : us1 = (slicePick vs.toArray none (some (q : Int)) none).toList) (e2 : us2 = (slicePick vs.toArray (some ((q : Int) + 2)) none none).toList) :
    IntsAre ([Value.int 0 t1] ++ us1 ++ [Value.int (((mc.getD q 0 : Nat) : Int) + ((mc.getD (q + 1) 0 : Nat) : Int)) t2] ++ us2) (intsN (movedN mc q)) := by
  rw [slice_upto] at e1
  rw [slice_from vs (a := q + 2) (by lia)] at e2
  subst e1 e2
  have a := ints_take q h
  have b := ints_drop (q + 2) h
  have e : intsN (movedN mc q) = (((0 : Int) :: (intsN mc).take q) ++ [((mc.getD q 0 : Nat) : Int) + ((mc.getD (q + 1) 0 : Nat) : Int)]) ++ (intsN mc).drop (q + 2) := by
    simp [movedN, intsN]
  rw [e]
  exact ints_app (ints_app (.cons 0 t1 a) (.cons _ t2 .nil)) b
theorem any_zero (mc : List Nat) (q : Nat) : (((intsN mc).drop q).take 2).any (· == 0) = decide (0 ∈ (mc.drop q).take 2) := by
  have e : ((intsN mc).drop q).take 2 = intsN ((mc.drop q).take 2) := by simp [intsN]
  rw [e]
  apply Bool.eq_iff_iff.mpr
  rw [List.any_eq_true, decide_eq_true_iff]
  constructor
  · rintro ⟨x, hx, h0⟩
    obtain ⟨d, hd, rfl⟩ := List.mem_map.mp hx
    have : (Int.ofNat d) = 0 := eq_of_beq h0
    have h : d = 0 := by simpa using this
    rw [← h]; exact hd
  · intro h
    exact ⟨0, List.mem_map.mpr ⟨0, h, rfl⟩, rfl⟩
noncomputable abbrev LV := Addr × (Int × Int × Int) × Tok × Tok × Tok
noncomputable def levT (hs : List LV) : List (Addr × Obj) := hs.map fun p => (p.1, tupOf [.int p.2.1.1 p.2.2.1, .int p.2.1.2.1 p.2.2.2.1, .int p.2.1.2.2 p.2.2.2.2] 0)
noncomputable def levV (hs : List LV) : List Value := hs.reverse.map fun p => .ref p.1
noncomputable def levD (hs : List LV) : List (Int × Int × Int) := hs.reverse.map fun p => p.2.1
noncomputable def colT (mc mm : List Nat) (i : Nat) : Int × Int × Int := (1 + (i : Int), columnI (intsN mc) (1 + (i : Int)) + 2, columnI (intsN mm) (1 + (i : Int)))
theorem levV_cons (p : LV) (hs : List LV) : levV (p :: hs) = levV hs ++ [.ref p.1] := by simp [levV]
theorem levT_cons (p : LV) (hs : List LV) : levT (p :: hs) = (p.1, tupOf [.int p.2.1.1 p.2.2.1, .int p.2.1.2.1 p.2.2.2.1, .int p.2.1.2.2 p.2.2.2.2] 0) :: levT hs := rfl
theorem levD_next {hs : List LV} {f : Nat → Int × Int × Int} {k : Nat} {p : LV} (h : levD hs = (List.range k).map f) (h1 : p.2.1 = f k) : levD (p :: hs) = (List.range (k + 1)).map f := by
  rw [List.range_succ, List.map_append, ← h, levD, List.reverse_cons, List.map_append]
  simp [levD, h1]
theorem lev_get {hs : List LV} {n : Nat} {f : Nat → Int × Int × Int} (h : levD hs = (List.range n).map f) {i : Nat} {v : Value} (hv : (levV hs)[i]? = some v) : ∃ a t1 t2 t3, v = .ref a ∧ (a, tupOf [.int (f i).1 t1, .int (f i).2.1 t2, .int (f i).2.2 t3] 0) ∈ levT hs := by
  unfold levV at hv
  rw [List.getElem?_map] at hv
  cases h1 : hs.reverse[i]? with
  | none => rw [h1] at hv; cases hv
  | some p =>
    rw [h1] at hv
    cases hv
    have h2 : p.2.1 = f i := by
      have := congrArg (fun l : List (Int × Int × Int) => l[i]?) h
      unfold levD at this
      have hi : i < n := by
        have hl : hs.reverse.length = n := by have := congrArg List.length h; simpa [levD] using this
        have := (List.getElem?_eq_some_iff.mp h1).1; lia
      rw [List.getElem?_map, List.getElem?_map, h1, List.getElem?_range hi] at this
      simpa using this
    refine ⟨p.1, p.2.2.1, p.2.2.2.1, p.2.2.2.2, rfl, ?_⟩
    rw [← h2]
    exact List.mem_map.mpr ⟨p, List.mem_reverse.mp (List.mem_of_getElem? h1), rfl⟩
theorem foldl_max (l : List Nat) : ∀ a : Nat, a ≤ l.foldl (fun a b => if a < b then b else a) a ∧ (∀ x ∈ l, x ≤ l.foldl (fun a b => if a < b then b else a) a) ∧ (l.foldl (fun a b => if a < b then b else a) a = a ∨ l.foldl (fun a b => if a < b then b else a) a ∈ l) := by
  induction l with
  | nil => intro a; exact ⟨Nat.le_refl _, by simp, .inl rfl⟩
  | cons x r ih =>
    intro a
    rw [List.foldl_cons]
    obtain ⟨h1, h2, h3⟩ := ih (if a < x then x else a)
    refine ⟨?_, ?_, ?_⟩
    · split at h1 <;> split <;> lia
    · intro y hy
      rcases List.mem_cons.mp hy with rfl | hy
      · split at h1 <;> split <;> lia
      · exact h2 y hy
    · rcases h3 with h3 | h3
      · by_cases q : a < x
        · right; rw [h3, if_pos q]; exact List.mem_cons_self
        · left; rw [h3, if_neg q]
      · right; exact List.mem_cons_of_mem _ h3
theorem max_eq {mm : List Nat} {M : Int} (h1 : M ∈ [(2 : Int)] ++ intsN mm) (h2 : ∀ a, a ∈ [(2 : Int)] ++ intsN mm → a ≤ M) : M = ((maxL mm : Nat) : Int) := by
  obtain ⟨f1, f2, f3⟩ := foldl_max mm 2
  change 2 ≤ maxL mm at f1
  change ∀ x ∈ mm, x ≤ maxL mm at f2
  change maxL mm = 2 ∨ maxL mm ∈ mm at f3
  have a : M ≤ (maxL mm : Nat) := by
    rcases List.mem_append.mp h1 with h | h
    · rw [List.mem_singleton] at h; lia
    · obtain ⟨d, hd, rfl⟩ := List.mem_map.mp h
      have := f2 d hd
      show (d : Int) ≤ _
      lia
  have b : ((maxL mm : Nat) : Int) ≤ M := by
    rcases f3 with h | h
    · rw [h]; exact h2 2 (by simp)
    · exact h2 _ (List.mem_append_right _ (List.mem_map.mpr ⟨_, h, rfl⟩))
  lia
theorem max_le {mm : List Nat} (h : ∀ d ∈ mm, d ≤ 12) : maxL mm ≤ 12 := by
  rcases (foldl_max mm 2).2.2 with e | e
  · show mm.foldl _ 2 ≤ 12; rw [e]; decide
  · exact h _ e
section
variable {prog : Program} {w : World} {A : Around} {E : Value → Shared → Prop} {s : Shared} {g : Heap} {L : Addr} {m : Str → Option Value} {led : List (Addr × Obj)}
theorem max_two {l : Addr} {vs : List Value} {n : Nat} {mm : List Nat} {t0 : Tok} {Q : Value → Shared → Prop} (hh : A.handled = none) (F : Fr g L s.heap m) (N : News g L s.heap led) (hq : (l, W.listOf ([Value.int 2 t0] ++ vs).toArray n) ∈ led) (hi : IntsAre vs (intsN mm))
    (h : ∀ h' t tk, Fr g L h' m → News g L h' led → Q (.int ((maxL mm : Nat) : Int) t) { s with heap := h', toks := tk }) : wpAny (model prog w) A (call (.builtin "max") [.ref l]) Q E s :=
  max_list_N hh F N (listAt N hq) (ints_app (.cons 2 t0 .nil) hi) (by simp) fun h' M t tk F' N' a b => by rw [max_eq a b]; exact h h' t tk F' N'
end
noncomputable def diffs (M : Nat) (f : Nat → Int × Int × Int) : List PyData := (List.range M).filterMap fun j => if (f j).2.1 = (f j).2.2 then none else some (.tuple [.int (f j).1, .int (f j).2.1, .int (f j).2.2])
theorem diffs_yes {M : Nat} {f : Nat → Int × Int × Int} (h : ¬ (f M).2.1 = (f M).2.2) : diffs (M + 1) f = diffs M f ++ [.tuple [.int (f M).1, .int (f M).2.1, .int (f M).2.2]] := by
  unfold diffs; rw [List.range_succ, List.filterMap_append]; simp [h]
theorem diffs_no {M : Nat} {f : Nat → Int × Int × Int} (h : (f M).2.1 = (f M).2.2) : diffs (M + 1) f = diffs M f := by
  unfold diffs; rw [List.range_succ, List.filterMap_append]; simp [h]
theorem diffs_sh (M : Nat) (f : Nat → Int × Int × Int) : Sh 3 (.list (diffs M f)) := by
  refine Sh.list (ShA.all fun d hd => ?_)
  unfold diffs at hd
  obtain ⟨j, _, hj⟩ := List.mem_filterMap.mp hd
  split at hj
  · cases hj
  · cases hj
    exact Sh.tup (ShA.cons (Sh.int _) (ShA.cons (Sh.int _) (ShA.cons (Sh.int _) ShA.nil)))
theorem diffs_eqv (f : Nat → Int × Int × Int) (M : Nat) : PyData.eqv (.list (diffs M f)) (.list (diffs M f)) = true := by
  rw [PyData.eqv]
  have h : ∀ l : List (Int × Int × Int), PyData.eqvAll (l.map fun p => .tuple [.int p.1, .int p.2.1, .int p.2.2]) (l.map fun p => .tuple [.int p.1, .int p.2.1, .int p.2.2]) = true := by
    intro l
    induction l with
    | nil => simp [PyData.eqvAll]
    | cons p r ih =>
      rw [List.map_cons, PyData.eqvAll, ih]
      simp [PyData.eqv, PyData.eqvAll]
  have e : diffs M f = ((List.range M).filterMap fun j => if (f j).2.1 = (f j).2.2 then none else some (f j)).map fun p => .tuple [.int p.1, .int p.2.1, .int p.2.2] := by
    unfold diffs
    rw [List.map_filterMap]
    congr 1
    funext j
    split <;> rfl
  rw [e]
  exact h _
theorem f11_tk (A B C U U₂ : List (Addr × Obj)) (p q : Addr × Obj) : TakeAll ((A ++ B ++ p :: U₂) ++ (q :: (C ++ U))) (q :: p :: (A ++ (B ++ (C ++ (U₂ ++ U))))) [] := by
  have e : (A ++ B ++ p :: U₂) ++ (q :: (C ++ U)) = A ++ (B ++ (p :: (U₂ ++ (q :: (C ++ U))))) := by simp
  rw [e]
  exact take_blocks [A, B, [p], U₂, [q], C, U] 7 rfl [4, 2, 0, 1, 5, 3, 6] [] (by decide +kernel)
theorem f11_tk2 (A B C U U₂ : List (Addr × Obj)) (p q r : Addr × Obj) : TakeAll (r :: q :: p :: (A ++ (B ++ (C ++ (U₂ ++ U))))) (A ++ (B ++ (q :: (C ++ U)))) ([r, p] ++ U₂) :=
  take_blocks [[r], [q], [p], A, B, C, U₂, U] 8 rfl [3, 4, 1, 5, 7] [0, 2, 6] (by decide +kernel)
theorem lacks_lt (ns : List Int) : ∀ c ∈ runsL ns ++ [32, 32], c < 128 := by
  intro c hc
  rcases List.mem_append.mp hc with h | h
  · exact runs_lt ns c h
  · simp at h; lia
theorem lacks_len {l : List Nat} (h : l.length ≤ 198) : (l ++ [32, 32]).length ≤ 200 := by simp; lia
theorem lacksN_len {lc : List Nat} {wd : Nat} (hl : lc.length ≤ 6) (hw : wd ≤ 6) : (runsL (intsN (lc.map (wd - ·)))).length ≤ 198 := by
  have h : ∀ d ∈ lc.map (wd - ·), d ≤ 6 := fun d hd => by
    obtain ⟨e, _, rfl⟩ := List.mem_map.mp hd
    lia
  have := runs_len (ns := intsN (lc.map (wd - ·))) (B := 6) (ints_le h (by decide))
  have e : (intsN (lc.map (wd - ·))).length = lc.length := by simp [intsN]
  rw [e] at this; lia
theorem moved_len {mc : List Nat} {t q : Nat} (h : mc.length = t) (ht : t ≤ 6) (hq : q < t - 1) : (movedN mc q).length ≤ 6 := by
  unfold movedN; simp; lia
theorem moved_le {mc : List Nat} {q : Nat} (h : ∀ d ∈ mc, d ≤ 6) : ∀ d ∈ movedN mc q, d ≤ 12 := by
  intro d hd
  have hg : ∀ k, mc.getD k 0 ≤ 6 := fun k => by
    rw [List.getD_eq_getElem?_getD]
    cases e : mc[k]? with
    | none => simp
    | some x => exact h x (List.mem_of_getElem? e)
  unfold movedN at hd
  rcases List.mem_cons.mp hd with rfl | hd
  · lia
  rcases List.mem_append.mp hd with hd | hd
  · have := h d (List.mem_of_mem_take hd); lia
  rcases List.mem_cons.mp hd with rfl | hd
  · have a := hg q; have b := hg (q + 1); lia
  · have := h d (List.mem_of_mem_drop hd); lia
end
section
noncomputable def leftP (p : Nat × Nat) : List Nat := if p.1 = 3 then [13, 10] else [10]
noncomputable def restT (its : List (Nat × Nat)) : Nat → List Nat
  | 0 => snU its its.length
  | k + 1 => if k < its.length then leftP (its.getD k (0, 0)) ++ ((its.drop (k + 1)).map fun p => sentP p ++ [13, 10]).flatten else []
noncomputable def tokT (its : List (Nat × Nat)) (k : Nat) : List Nat := if k < its.length then tokP (its.getD k (0, 0)) else []
structure StepOk (t n wd hi ba st tu : Nat) : Prop where
  n62 : n ≤ 62
  ds : (List.range hi).map (dueN (bitsN t n) wd hi) = duesN t n
  db : ∀ d ∈ duesN t n, d ≤ 6
  b1 : ∀ i < hi, (bitsN t n).getD ((i + t - 1) % t) false = bareN t n i
  b2 : ∀ i < hi, decide ((duesN t n).getD i 0 < if i = 0 then wd else (duesN t n).getD (i - 1) 0) = bareN t n i
  q : quoteL (txU (itsOf (duesN t n) (bareN t n) (st + tu)) (st + tu / 3) hi) = snU (itsOf (duesN t n) (bareN t n) (st + tu)) hi
  R0 : restT (itsOf (duesN t n) (bareN t n) (st + tu)) 0 = snU (itsOf (duesN t n) (bareN t n) (st + tu)) hi
  s128 : ∀ c ∈ snU (itsOf (duesN t n) (bareN t n) (st + tu)) hi, c < 128
  R : ∀ k ≤ hi, ∃ W tl, restT (itsOf (duesN t n) (bareN t n) (st + tu)) k = W ++ tl ∧ (∀ c ∈ W, isW c = true) ∧ Tail tl (tokT (itsOf (duesN t n) (bareN t n) (st + tu)) k) (restT (itsOf (duesN t n) (bareN t n) (st + tu)) (k + 1)) ∧ (∀ c ∈ W ++ tl, c < 128) ∧ (W ++ tl).length ≤ 1000 ∧ nl W = if k = 0 then 0 else 1
  tks : (itsOf (duesN t n) (bareN t n) (st + tu)).map tokP = (List.range hi).map (tokT (itsOf (duesN t n) (bareN t n) (st + tu)))
  tki : ∀ i < hi, tokT (itsOf (duesN t n) (bareN t n) (st + tu)) i = if bareN t n i then 46 :: dots ((duesN t n).getD i 0) else dots ((duesN t n).getD i 0)
  tkl : tokT (itsOf (duesN t n) (bareN t n) (st + tu)) hi = []
  tk128 : ∀ k, ∀ c ∈ tokT (itsOf (duesN t n) (bareN t n) (st + tu)) k, c < 128
  lack : lackW (wsOf (runsL (intsN (duesN t n)))).cs wd = lackN wd (duesN t n)
  ll : (lackN wd (duesN t n)).length ≤ 6
  l6 : ∀ l ∈ lackN wd (duesN t n), l ≤ 6
  pl : (List.range hi).filter (bareN t n) ++ (lackN wd (duesN t n)).map (hi + ·) = placesN t n
  pl6 : (placesN t n).length ≤ 6
  p5 : ∀ p ∈ placesN t n, p ≤ 5
  n1 : 1 ≤ rotN t n
  n2 : rotN t n ≤ 62
  f1 : rotN t n * 2 ^ ba < 16384
  eq : flagsL (rotN t n * 2 ^ ba) = joinL [44, 32] ((placesN t n).map fun k => nameL (ba + k))
  bits : (bitsN t n).dropLast.reverse ++ [(bitsN t n).getLastD false] = (bitsN t (rotN t n)).reverse
  rows : rowsK (duesN t n) (bareN t n) hi hi = duesN t (rotN t n)
end
section
noncomputable def flatS (its : List (Nat × Nat)) : List Nat := (its.map fun p => sentP p ++ [13, 10]).flatten
theorem flatS_cons (p : Nat × Nat) (r : List (Nat × Nat)) : flatS (p :: r) = sentP p ++ ([13, 10] ++ flatS r) := by simp [flatS]
theorem dots_cons (d : Nat) : dots d = 46 :: List.replicate d 46 := rfl
theorem tail_of (p : Nat × Nat) (h : p.1 ≤ 3) (R : List Nat) : ∃ W tl, sentP p ++ ([13, 10] ++ R) = W ++ tl ∧ (∀ c ∈ W, isW c = true) ∧ nl W = 0 ∧ Tail tl (tokP p) (leftP p ++ R) := by
  obtain ⟨k, d⟩ := p
  have hr : ∀ x ∈ List.replicate d 46, isW x = false ∧ x ≠ 92 := fun x hx => by rw [(List.mem_replicate.mp hx).2]; decide
  have hr2 : ∀ x ∈ dots d, isW x = false ∧ x ≠ 92 := fun x hx => by rw [(List.mem_replicate.mp hx).2]; decide
  match k, h with
  | 0, _ => exact ⟨[], 46 :: (dots d ++ 13 :: (10 :: R)), rfl, by simp, rfl, Tail.plain (c := 46) (b := dots d) (r := 10 :: R) (by decide) (by decide) (by decide) hr2⟩
  | 1, _ => exact ⟨[32], 46 :: (List.replicate d 46 ++ 13 :: (10 :: R)), rfl, by decide, rfl, Tail.plain (c := 46) (b := List.replicate d 46) (r := 10 :: R) (by decide) (by decide) (by decide) hr⟩
  | 2, _ => exact ⟨[], 92 :: 46 :: (List.replicate d 46 ++ 13 :: (10 :: R)), rfl, by simp, rfl, Tail.esc (c := 46) (b := List.replicate d 46) (r := 10 :: R) (by decide) hr⟩
  | 3, _ =>
    refine ⟨[], 34 :: (dots d ++ 34 :: (13 :: 10 :: R)), ?_, by simp, rfl, Tail.quo (b := dots d) (r := 13 :: 10 :: R) fun x hx => by rw [(List.mem_replicate.mp hx).2]; decide⟩
    show 34 :: (dots d ++ [34]) ++ ([13, 10] ++ R) = _
    simp
theorem left_ok (p : Nat × Nat) : (∀ c ∈ leftP p, isW c = true) ∧ nl (leftP p) = 1 := by
  unfold leftP; split <;> decide
theorem restT_zero (its : List (Nat × Nat)) : restT its 0 = flatS its := by show snU its its.length = _; rw [snU_all]; rfl
theorem restT_mid {its : List (Nat × Nat)} {k : Nat} (h : k < its.length) : restT its (k + 1) = leftP (its.getD k (0, 0)) ++ flatS (its.drop (k + 1)) := by
  show (if k < its.length then _ else _) = _
  rw [if_pos h]; rfl
theorem restT_end {its : List (Nat × Nat)} {k : Nat} (h : ¬ k < its.length) : restT its (k + 1) = [] := by
  show (if k < its.length then _ else _) = _
  rw [if_neg h]
theorem tok_step0 {its : List (Nat × Nat)} (hk : ∀ p ∈ its, p.1 ≤ 3) {k : Nat} (h : k ≤ its.length) : ∃ W tl, flatS (its.drop k) = W ++ tl ∧ (∀ c ∈ W, isW c = true) ∧ nl W = 0 ∧ Tail tl (tokT its k) (restT its (k + 1)) := by
  rcases Nat.lt_or_ge k its.length with q | q
  · rw [List.drop_eq_getElem_cons q, flatS_cons]
    obtain ⟨W, tl, e, h1, h2, h3⟩ := tail_of its[k] (hk _ (List.getElem_mem q)) (flatS (its.drop (k + 1)))
    refine ⟨W, tl, e, h1, h2, ?_⟩
    have hg : its.getD k (0, 0) = its[k] := by rw [List.getD_eq_getElem?_getD, List.getElem?_eq_getElem q]; rfl
    rw [restT_mid q, hg]
    show Tail tl (if k < its.length then _ else _) _
    rw [if_pos q, hg]; exact h3
  · rw [List.drop_of_length_le q, restT_end (by lia)]
    refine ⟨[], [], rfl, by simp, rfl, ?_⟩
    show Tail [] (if k < its.length then _ else _) []
    rw [if_neg (by lia)]; exact .eof
theorem tok_step1 {its : List (Nat × Nat)} (hk : ∀ p ∈ its, p.1 ≤ 3) {k : Nat} (h : k ≤ its.length) : ∃ W tl, restT its k = W ++ tl ∧ (∀ c ∈ W, isW c = true) ∧ Tail tl (tokT its k) (restT its (k + 1)) ∧ nl W = if k = 0 then 0 else 1 := by
  obtain ⟨W, tl, e, h1, h2, h3⟩ := tok_step0 hk h
  cases k with
  | zero => exact ⟨W, tl, by rw [restT_zero]; simpa using e, h1, h3, by rw [h2]; rfl⟩
  | succ k =>
    refine ⟨leftP (its.getD k (0, 0)) ++ W, tl, ?_, ?_, h3, ?_⟩
    · rw [restT_mid (by lia), e, List.append_assoc]
    · intro c hc
      rcases List.mem_append.mp hc with hc | hc
      · exact (left_ok _).1 c hc
      · exact h1 c hc
    · have : nl (leftP (its.getD k (0, 0)) ++ W) = nl (leftP (its.getD k (0, 0))) + nl W := by unfold nl; rw [List.count_append]
      rw [this, (left_ok _).2, h2]; rfl
theorem sent_lt (p : Nat × Nat) : ∀ c ∈ sentP p, c < 128 := by
  obtain ⟨k, d⟩ := p
  intro c hc
  have hd : ∀ x ∈ dots d, x = 46 := fun x hx => (List.mem_replicate.mp hx).2
  match k with
  | 0 => rcases List.mem_cons.mp hc with h | h
         · lia
         · have := hd c h; lia
  | 1 => rcases List.mem_cons.mp hc with h | h
         · lia
         · have := hd c h; lia
  | 2 => rcases List.mem_cons.mp hc with h | h
         · lia
         · have := hd c h; lia
  | _ + 3 => rcases List.mem_cons.mp hc with h | h
             · lia
             · rcases List.mem_append.mp h with h | h
               · have := hd c h; lia
               · simp at h; lia
theorem flatS_lt (its : List (Nat × Nat)) : ∀ c ∈ flatS its, c < 128 := by
  intro c hc
  obtain ⟨l, hl, hc⟩ := List.mem_flatten.mp hc
  obtain ⟨p, _, rfl⟩ := List.mem_map.mp hl
  rcases List.mem_append.mp hc with h | h
  · exact sent_lt p c h
  · simp at h; lia
theorem flatS_len {its : List (Nat × Nat)} (h : ∀ p ∈ its, p.2 ≤ 6) : (flatS its).length ≤ 11 * its.length :=
  flat_len (fun p => sentP p ++ [13, 10]) 11 its fun p hp => by
    have a := sentP_len p
    have b := h p hp
    rw [List.length_append]; simp; lia
theorem restT_lt (its : List (Nat × Nat)) (k : Nat) : ∀ c ∈ restT its k, c < 128 := by
  cases k with
  | zero => rw [restT_zero]; exact flatS_lt its
  | succ k =>
    by_cases h : k < its.length
    · rw [restT_mid h]
      intro c hc
      rcases List.mem_append.mp hc with hc | hc
      · unfold leftP at hc; split at hc <;> simp at hc <;> lia
      · exact flatS_lt _ c hc
    · rw [restT_end h]; simp
theorem restT_len {its : List (Nat × Nat)} (h : ∀ p ∈ its, p.2 ≤ 6) (hl : its.length ≤ 6) (k : Nat) : (restT its k).length ≤ 1000 := by
  cases k with
  | zero => rw [restT_zero]; have := flatS_len h; lia
  | succ k =>
    by_cases q : k < its.length
    · rw [restT_mid q, List.length_append]
      have a := flatS_len (its := its.drop (k + 1)) fun p hp => h p (List.mem_of_mem_drop hp)
      have b : (leftP (its.getD k (0, 0))).length ≤ 2 := by unfold leftP; split <;> simp
      rw [List.length_drop] at a; lia
    · rw [restT_end q]; simp
theorem tokP_lt (p : Nat × Nat) : ∀ c ∈ tokP p, c < 128 := by
  intro c hc
  have hd : ∀ x ∈ dots p.2, x = 46 := fun x hx => (List.mem_replicate.mp hx).2
  unfold tokP at hc
  split at hc
  · rcases List.mem_cons.mp hc with h | h
    · lia
    · have := hd c h; lia
  · have := hd c hc; lia
end
section
noncomputable def checkL (t n : Nat) : Bool := lackW (wsOf (runsL (intsN (duesN t n)))).cs (wdN t n) == lackN (wdN t n) (duesN t n)
noncomputable def checkK (t n : Nat) : Bool := rowsK (duesN t n) (bareN t n) (hiN t n) (hiN t n) == duesN t (rotN t n)
noncomputable def checkM (t n : Nat) : Bool := (List.range 9).all fun b => (List.range 14).filter (n * 2 ^ b).testBit == ((List.range t).filter n.testBit).map (b + ·)
theorem allL : allN checkL = true := by decide +kernel
theorem allK : allN checkK = true := by decide +kernel
theorem allM : allN checkM = true := by decide +kernel
theorem allN_at {f : Nat → Nat → Bool} (h : allN f = true) {t n : Nat} (h4 : 4 ≤ t) (h6 : t ≤ 6) (h1 : 1 ≤ n) (h2 : n ≤ 2 ^ t - 2) : f t n = true := by
  unfold allN at h
  rw [List.all_eq_true] at h
  have ht : t ∈ [4, 5, 6] := by
    have : t = 4 ∨ t = 5 ∨ t = 6 := by lia
    rcases this with rfl | rfl | rfl <;> decide
  have h := h t ht
  rw [List.all_eq_true] at h
  have h := h (n - 1) (List.mem_range.mpr (by lia))
  rwa [Nat.sub_add_cancel h1] at h
theorem pow_le {t : Nat} (h6 : t ≤ 6) : 2 ^ t ≤ 64 := Nat.pow_le_pow_right (n := 2) (by decide) h6
theorem rot_ok {t n : Nat} (h4 : 4 ≤ t) (h6 : t ≤ 6) (h1 : 1 ≤ n) (h2 : n ≤ 2 ^ t - 2) : bitsN t (rotN t n) = n.testBit (t - 1) :: (bitsN t n).dropLast ∧ 1 ≤ rotN t n ∧ rotN t n ≤ 2 ^ t - 2 ∧ wdN t (rotN t n) = wdN t n := by
  have h := allN_at allR h4 h6 h1 h2
  unfold checkR at h
  simp only [Bool.and_eq_true, decide_eq_true_iff, beq_iff_eq] at h
  exact ⟨h.1.1.1, h.1.1.2, h.1.2, h.2⟩
theorem num_ok {t n : Nat} (h4 : 4 ≤ t) (h6 : t ≤ 6) (h1 : 1 ≤ n) (h2 : n ≤ 2 ^ t - 2) : ∀ s : Nat, 1 ≤ numN t n s ∧ numN t n s ≤ 2 ^ t - 2 ∧ wdN t (numN t n s) = wdN t n
  | 0 => ⟨h1, h2, rfl⟩
  | s + 1 => by
    have ih := num_ok h4 h6 h1 h2 s
    have r := rot_ok h4 h6 ih.1 ih.2.1
    exact ⟨r.2.1, r.2.2.1, r.2.2.2.trans ih.2.2⟩
theorem its_eq (t n w : Nat) : itsOf (duesN t n) (bareN t n) w = itsN t n (w % 3) := by
  unfold itsOf itsN
  have e : (duesN t n).length = hiN t n := by simp [duesN]
  rw [e]
  apply List.map_congr_left
  intro i _
  rw [show (i + w % 3) % 3 = (i + w) % 3 by lia]
theorem tx_eq (its : List (Nat × Nat)) (e : Nat) : txU its e its.length = textL its (e % 3) := by
  unfold txU textL
  congr 1
  apply List.map_congr_left
  intro i _
  rw [show (i + e % 3) % 3 = (i + e) % 3 by lia]
theorem quote_ok {t n : Nat} (h4 : 4 ≤ t) (h6 : t ≤ 6) (h1 : 1 ≤ n) (h2 : n ≤ 2 ^ t - 2) (w e : Nat) : quoteL (txU (itsOf (duesN t n) (bareN t n) w) e (itsOf (duesN t n) (bareN t n) w).length) = sentL (itsOf (duesN t n) (bareN t n) w) := by
  rw [tx_eq, its_eq]
  have h := allD_ok
  unfold allD at h
  have h := allN_at h h4 h6 h1 h2
  rw [List.all_eq_true] at h
  have h := h (w % 3) (List.mem_range.mpr (by lia))
  rw [List.all_eq_true] at h
  have h := h (e % 3) (List.mem_range.mpr (by lia))
  exact eq_of_beq h
theorem wd_le (t n : Nat) : wdN t n ≤ t := by
  have := List.count_le_length (l := bitsN t n) (a := true)
  unfold wdN
  simpa [bitsN] using this
theorem dues_le (t n : Nat) : ∀ d ∈ duesN t n, d ≤ wdN t n := by
  intro d hd
  obtain ⟨i, _, rfl⟩ := List.mem_map.mp hd
  exact dueN_le _ _ _ _
theorem step_ok {t n ba : Nat} (h4 : 4 ≤ t) (h6 : t ≤ 6) (h1 : 1 ≤ n) (h2 : n ≤ 2 ^ t - 2) (hb : ba ≤ 8) (st tu : Nat) : StepOk t (numN t n st) (wdN t n) (hiN t n) ba st tu := by
  obtain ⟨g1, g2, g3⟩ := num_ok h4 h6 h1 h2 st
  have ghi : hiN t (numN t n st) = hiN t n := by unfold hiN; rw [g3]
  generalize numN t n st = k at g1 g2 g3 ghi
  have p64 := pow_le h6
  have hwt := wd_le t n
  have r := rot_ok h4 h6 g1 g2
  have hA := allN_at allA h4 h6 g1 g2
  have hB := allN_at allB h4 h6 g1 g2
  have hL := allN_at allL h4 h6 g1 g2
  have hK := allN_at allK h4 h6 g1 g2
  have hM := allN_at allM h4 h6 r.2.1 r.2.2.1
  unfold checkA at hA
  rw [List.all_eq_true] at hA
  have hB := eq_of_beq hB
  have hL := eq_of_beq hL
  have hK := eq_of_beq hK
  unfold checkM at hM
  rw [List.all_eq_true] at hM
  have hM := eq_of_beq (hM ba (List.mem_range.mpr (by lia)))
  rw [g3] at hL hA
  rw [ghi] at hK hA
  have hdl : (duesN t k).length = hiN t n := by rw [← ghi]; simp [duesN]
  have hdb : ∀ d ∈ duesN t k, d ≤ 6 := fun d hd => by have := dues_le t k d hd; lia
  have hits := snd_le hdb (bareN t k) (st + tu)
  have hil : (itsOf (duesN t k) (bareN t k) (st + tu)).length = hiN t n := by rw [its_len, hdl]
  have hh6 : hiN t n ≤ 6 := by unfold hiN; lia
  have hk3 : ∀ p ∈ itsOf (duesN t k) (bareN t k) (st + tu), p.1 ≤ 3 := by
    intro p hp
    obtain ⟨i, _, rfl⟩ := List.mem_map.mp hp
    show (if bareN t k i then 0 else (i + (st + tu)) % 3 + 1) ≤ 3
    split <;> lia
  have hsn : snU (itsOf (duesN t k) (bareN t k) (st + tu)) (hiN t n) = flatS (itsOf (duesN t k) (bareN t k) (st + tu)) := by rw [← hil, snU_all]; rfl
  have hpl : (List.range (hiN t n)).filter (bareN t k) ++ (lackN (wdN t n) (duesN t k)).map (hiN t n + ·) = placesN t k := by unfold placesN; rw [ghi, g3]
  have hpf : placesN t k = (List.range t).filter (rotN t k).testBit := hB
  have hlk : ∀ l ∈ lackN (wdN t n) (duesN t k), l < wdN t n := fun l hl => List.mem_range.mp (List.mem_filter.mp hl).1
  have htok : ∀ i < hiN t n, tokT (itsOf (duesN t k) (bareN t k) (st + tu)) i = if bareN t k i then 46 :: dots ((duesN t k).getD i 0) else dots ((duesN t k).getD i 0) := by
    intro i hi
    show (if i < _ then _ else _) = _
    rw [if_pos (by rw [hil]; exact hi), List.getD_eq_getElem?_getD (l := itsOf _ _ _), its_at (by rw [hdl]; exact hi)]
    cases bareN t k i <;> rfl
  constructor
  case n62 => lia
  case ds => unfold duesN; rw [g3, ghi]
  case db => exact hdb
  case b1 => intro i _; rfl
  case b2 => intro i hi; exact eq_of_beq (hA i (List.mem_range.mpr hi))
  case q =>
    have := quote_ok h4 h6 g1 g2 (st + tu) (st + tu / 3)
    rw [hil] at this
    rw [this, hsn]; rfl
  case R0 => rw [restT_zero, hsn]
  case s128 => rw [hsn]; exact flatS_lt _
  case R =>
    intro j hj
    obtain ⟨W, tl, e, a, b, c⟩ := tok_step1 hk3 (k := j) (by rw [hil]; exact hj)
    refine ⟨W, tl, e, a, b, ?_, ?_, c⟩
    · rw [← e]; exact restT_lt _ _
    · rw [← e]; exact restT_len hits (by rw [hil]; exact hh6) _
  case tks =>
    apply List.ext_getElem?
    intro i
    rw [List.getElem?_map, List.getElem?_map]
    rcases Nat.lt_or_ge i (hiN t n) with h | h
    · rw [its_at (by rw [hdl]; exact h), List.getElem?_range h]
      show some _ = some (tokT _ i)
      unfold tokT
      rw [if_pos (c := i < (itsOf (duesN t k) (bareN t k) (st + tu)).length) (by rw [hil]; exact h), List.getD_eq_getElem?_getD (l := itsOf _ _ _), its_at (by rw [hdl]; exact h)]; rfl
    · rw [List.getElem?_eq_none (by rw [hil]; exact h), List.getElem?_eq_none (by simpa using h)]; rfl
  case tki => exact htok
  case tkl => show (if _ < _ then _ else _) = _; rw [if_neg (by rw [hil]; lia)]
  case tk128 =>
    intro j c hc
    unfold tokT at hc
    split at hc
    · exact tokP_lt _ c hc
    · cases hc
  case lack => exact hL
  case ll => unfold lackN; exact Nat.le_trans (List.length_filter_le _ _) (by simp; lia)
  case l6 => intro l hl; have := hlk l hl; lia
  case pl => exact hpl
  case pl6 => rw [hpf]; exact Nat.le_trans (List.length_filter_le _ _) (by simp; lia)
  case p5 => intro p hp; rw [hpf] at hp; have := List.mem_range.mp (List.mem_filter.mp hp).1; lia
  case n1 => exact r.2.1
  case n2 => lia
  case f1 =>
    have : 2 ^ ba ≤ 2 ^ 8 := Nat.pow_le_pow_right (by decide) hb
    calc rotN t k * 2 ^ ba ≤ 62 * 2 ^ 8 := Nat.mul_le_mul (by lia) this
      _ < 16384 := by decide
  case eq => unfold flagsL namesF; rw [hM, hpf, List.map_map]; rfl
  case bits =>
    rw [r.1, List.reverse_cons]
    congr 1
    have e : t = (t - 1) + 1 := by lia
    unfold bitsN
    rw [e, List.range_succ, List.map_append, List.map_cons, List.map_nil]
    simp
  case rows => exact hK
end
section
theorem col_len (t n i : Nat) : (colN t n i).length = t := by simp [colN]
theorem col_le {t n : Nat} (h4 : 4 ≤ t) (h6 : t ≤ 6) (h1 : 1 ≤ n) (h2 : n ≤ 2 ^ t - 2) (i : Nat) : ∀ d ∈ colN t n i, d ≤ wdN t n := by
  intro d hd
  obtain ⟨s, _, rfl⟩ := List.mem_map.mp hd
  have hs := num_ok h4 h6 h1 h2 s
  rw [List.getD_eq_getElem?_getD]
  cases e : (duesN t (numN t n s))[i]? with
  | none => simp
  | some x => have := dues_le t (numN t n s) x (List.mem_of_getElem? e); rw [hs.2.2] at this; exact this
theorem g_ok {t n : Nat} (h4 : 4 ≤ t) (h6 : t ≤ 6) (h1 : 1 ≤ n) (h2 : n ≤ 2 ^ t - 2) (i : Nat) (hi : i < (hiN t n + 1) / 2) :
    equalW (wsOf (runsL (intsN ((colN t n i).map (wdN t n - ·))))) (wsOf (runsL (intsN (colN t n (hiN t n - 1 - i))))) = true := by
  have h := allN_at allG h4 h6 h1 h2
  unfold checkG at h
  rw [List.all_eq_true] at h
  have h := h i (List.mem_range.mpr hi)
  simp only [Bool.and_eq_true, decide_eq_true_iff, beq_iff_eq] at h
  unfold equalW
  simp only [Bool.and_eq_true, decide_eq_true_iff]
  exact ⟨h.1.1, congrArg Int.ofNat h.1.2⟩
theorem h_at {t n : Nat} (h4 : 4 ≤ t) (h6 : t ≤ 6) (h1 : 1 ≤ n) (h2 : n ≤ 2 ^ t - 2) (i : Nat) (hi : i < (hiN t n + 1) / 2) (q : Nat) (hq : q < t - 1) : checkH t n i q = true := by
  have key : ∀ t, allH t = true → n ≤ 2 ^ t - 2 → i < (hiN t n + 1) / 2 → q < t - 1 → checkH t n i q = true := by
    intro t h h2 hi hq
    unfold allH at h
    rw [List.all_eq_true] at h
    have h := h (n - 1) (List.mem_range.mpr (by lia))
    rw [Nat.sub_add_cancel h1, List.all_eq_true] at h
    have h := h i (List.mem_range.mpr hi)
    rw [List.all_eq_true] at h
    exact h q (List.mem_range.mpr hq)
  have : t = 4 ∨ t = 5 ∨ t = 6 := by lia
  rcases this with rfl | rfl | rfl
  · exact key 4 allH4 h2 hi hq
  · exact key 5 allH5 h2 hi hq
  · exact key 6 allH6 h2 hi hq
theorem diffs_eq (M : Nat) (mc mm : List Nat) : diffs M (colT mc mm) = ((List.range M).filterMap fun j => let x := columnI (intsN mc) (1 + j : Nat) + 2; let y := columnI (intsN mm) (1 + j : Nat); if x = y then none else some (((1 + j : Nat) : Int), x, y)).map fun p => .tuple [.int p.1, .int p.2.1, .int p.2.2] := by
  unfold diffs
  rw [List.map_filterMap]
  congr 1
  funext j
  have e : ((1 + j : Nat) : Int) = 1 + (j : Int) := by lia
  have hc : colT mc mm j = (((1 + j : Nat) : Int), columnI (intsN mc) ((1 + j : Nat) : Int) + 2, columnI (intsN mm) ((1 + j : Nat) : Int)) := by unfold colT; rw [e]
  rw [hc]
  by_cases h : columnI (intsN mc) ((1 + j : Nat) : Int) + 2 = columnI (intsN mm) ((1 + j : Nat) : Int)
  · simp only [if_pos h]; rfl
  · simp only [if_neg h]; rfl
theorem witW_eq (a b : WsS) : witW a b = ((List.range ((mx (longB a.b a.cs.length) (longB b.b b.cs.length)).toNat + 1)).filterMap (witT (fun t => ilB t a.b a.nt a.cs) (fun t => ilB t b.b b.nt b.cs))).map fun p => .tuple [.int p.1, .int p.2.1, .int p.2.2] := by
  unfold witW
  rw [List.map_filterMap]
  congr 1
  funext j
  unfold witD witT
  split <;> rfl
theorem h_ok {t n : Nat} (h4 : 4 ≤ t) (h6 : t ≤ 6) (h1 : 1 ≤ n) (h2 : n ≤ 2 ^ t - 2) (i : Nat) (hi : i < (hiN t n + 1) / 2) (q : Nat) (hq : q < t - 1) :
    equalW (wsOf (runsL (intsN ((colN t n i).map (wdN t n - ·))) ++ [32, 32])) (wsOf (runsL (intsN (colN t n (hiN t n - 1 - i))))) = false ∧
    equalW (wsOf (runsL (intsN (colN t n (hiN t n - 1 - i))))) (wsOf (runsL (intsN (movedN (colN t n (hiN t n - 1 - i)) q)))) = decide (0 ∈ ((colN t n (hiN t n - 1 - i)).drop q).take 2) ∧
    witW (wsOf (runsL (intsN ((colN t n i).map (wdN t n - ·))) ++ [32, 32])) (wsOf (runsL (intsN (movedN (colN t n (hiN t n - 1 - i)) q)))) = diffs (maxL (movedN (colN t n (hiN t n - 1 - i)) q) + 1) (colT (colN t n (hiN t n - 1 - i)) (movedN (colN t n (hiN t n - 1 - i)) q)) := by
  have h := h_at h4 h6 h1 h2 i hi q hq
  unfold checkH at h
  rw [Bool.and_eq_true, Bool.and_eq_true] at h
  obtain ⟨⟨a, b⟩, c⟩ := h
  refine ⟨?_, eq_of_beq b, ?_⟩
  · have := Bool.not_eq_true' _ |>.mp a
    exact this
  · rw [witW_eq, diffs_eq]
    exact congrArg _ (of_decide_eq_true c).symm
end
section
noncomputable def checkN (t n : Nat) : Bool := ((List.range t).filter n.testBit).length == wdN t n
theorem allN_ok : allN checkN = true := by decide +kernel
theorem nameL_inj : ∀ i < 14, ∀ j < 14, nameL i = nameL j → i = j := by decide +kernel
theorem names_eq {t n ba : Nat} (h4 : 4 ≤ t) (h6 : t ≤ 6) (h1 : 1 ≤ n) (h2 : n ≤ 2 ^ t - 2) (hb : ba ≤ 8) : namesF (n * 2 ^ ba) 14 = ((List.range t).filter n.testBit).map fun k => nameL (ba + k) := by
  have hM := allN_at allM h4 h6 h1 h2
  unfold checkM at hM
  rw [List.all_eq_true] at hM
  have hM := eq_of_beq (hM ba (List.mem_range.mpr (by lia)))
  unfold namesF
  rw [hM, List.map_map]; rfl
theorem names_wd {t n ba : Nat} (h4 : 4 ≤ t) (h6 : t ≤ 6) (h1 : 1 ≤ n) (h2 : n ≤ 2 ^ t - 2) (hb : ba ≤ 8) : (namesF (n * 2 ^ ba) 14).length = wdN t n := by
  rw [names_eq h4 h6 h1 h2 hb, List.length_map]
  exact eq_of_beq (allN_at allN_ok h4 h6 h1 h2)
theorem ring_ok {t n ba : Nat} (h4 : 4 ≤ t) (h6 : t ≤ 6) (h1 : 1 ≤ n) (h2 : n ≤ 2 ^ t - 2) (hb : ba ≤ 8) : (List.range t).map (fun k => bitW (decide (nameL (ba + t - 1 - k) ∈ namesF (n * 2 ^ ba) 14))) = (bitsN t n).reverse.map bitW := by
  have e : (List.range t).map (fun k => bitW (decide (nameL (ba + t - 1 - k) ∈ namesF (n * 2 ^ ba) 14))) = ((List.range t).map fun k => n.testBit (t - 1 - k)).map bitW := by
    rw [List.map_map]
    apply List.map_congr_left
    intro k hk
    have hk := List.mem_range.mp hk
    show bitW _ = bitW _
    congr 1
    rw [names_eq h4 h6 h1 h2 hb]
    apply Bool.eq_iff_iff.mpr
    rw [decide_eq_true_iff]
    constructor
    · intro h
      obtain ⟨j, hj, he⟩ := List.mem_map.mp h
      have hj := List.mem_filter.mp hj
      have hj1 := List.mem_range.mp hj.1
      have := nameL_inj _ (by lia) _ (by lia) he
      have e : t - 1 - k = j := by lia
      show n.testBit (t - 1 - k) = true
      rw [e]; exact hj.2
    · intro h
      exact List.mem_map.mpr ⟨t - 1 - k, List.mem_filter.mpr ⟨List.mem_range.mpr (by lia), h⟩, by congr 1; lia⟩
  rw [e]
  congr 1
  unfold bitsN
  apply List.ext_getElem?
  intro i
  rcases Nat.lt_or_ge i t with h | h
  · rw [List.getElem?_map, List.getElem?_range h, List.getElem?_reverse (by simpa using h), List.getElem?_map, List.length_map, List.length_range, List.getElem?_range (by lia)]; rfl
  · rw [List.getElem?_eq_none (by simpa using h), List.getElem?_eq_none (by simpa using h)]
theorem pow_nat {t n : Nat} (h : (n : Int) ≤ 2 ^ t - 2) : n ≤ 2 ^ t - 2 := by
  have e : ((2 ^ t : Nat) : Int) = 2 ^ t := by norm_cast
  lia
theorem flag_lt {n ba : Nat} (h : n ≤ 62) (hb : ba ≤ 8) : n * 2 ^ ba < 16384 := by
  have : 2 ^ ba ≤ 2 ^ 8 := Nat.pow_le_pow_right (by decide) hb
  calc n * 2 ^ ba ≤ 62 * 2 ^ 8 := Nat.mul_le_mul h this
    _ < 16384 := by decide
open PyProof.Rows in
theorem txs_len2 {vs : List PySem.Value} {ls : List (List Nat)} (h : TxsAre vs ls) : vs.length = ls.length := by
  have := StrsAre.length h
  rwa [List.length_map] at this
theorem runs_nil {rs : List (PySem.Addr × List PySem.Value × Nat)} (h : ∀ p ∈ rs, p.2.1 = []) : RunsOk rs fun _ => [] := by
  intro i p hp
  rw [h p (List.mem_of_getElem? hp)]
  exact .nil
end
example : True := by
  k_with "zexec Assign cons ListComp" => (k_here; (with_reducible show wpAny _ _ (exec (Stmt.Assign [Expr.Name _ _] (Expr.ListComp _ [Comprehension.mk (Expr.Tuple _ _ _) _ [] _] _ _) _) _) _ _ _); (k_dflt (refine assign_comp_E (F₀ := by k_asm) (by rfl) (by with_unfolding_all rfl) (by with_unfolding_all rfl) (by decide) (by rfl) (by decide) (by rfl) (by rfl) (by decide) (by rfl) (by rfl) ?_)))
  k_with "zcall type:enumerate" => (k_here; (with_reducible show wpAny _ _ (call (Value.type _) [Value.ref _]) _ _ _); (refine' Mine.halt ?_))
  k_with "zsubscriptTail Name Slice ref ref" => (k_here; (with_reducible show wpAny _ _ (subscriptTail _ (PySem.Expr.Slice _ _ _ _) (Value.ref _) (Value.ref _)) _ _ _); k_dflt (refine' slice3_w (by k_asm) (by k_asm) (by first | exact listAt (by k_asm) (by k_mem) | exact Fr.lst (by k_asm) ‹_›) (by first | exact .none | exact .int _ _) (by first | exact .none | exact .int _ _) (by first | exact .none | exact .int _ _) (by decide) (by first | assumption | lia) ?_ (by with_unfolding_all rfl) (by intro _; with_unfolding_all rfl); k_whole; intro _ _ _ _ _ _ _ z9l; (try k_lt z9l)))
  k_with "zm fr1" => first | rfl | (refine Eq.trans (if_neg (by intro z9e; apply (by assumption : ¬ _); rw [z9e]; k_mem)) ?_; walk_at "m fr1")
  k_with "zm fr" => (intro _ _; walk_at "m fr1")
  k_with "zcall ref" => (k_here; k_dflt ((first
    | (refine Mine.fa 112 ?_; refine' Mine.cs (S := sp_flags _ _ ‹_› ‹_›) (h := ?_))
    | (refine Mine.fa 178 ?_; refine' Mine.cs (S := sp_lnameI _ (by lia) (by lia) _) (h := ?_))
    | (refine Mine.fa 147 ?_; refine' Mine.cs (S := sp_push _ ‹_› _) (h := ?_))
    | (refine Mine.fa 140 ?_; refine' Mine.cs (S := sp_getp _ _ ‹_› _ ‹_›) (h := ?_))
    | (refine Mine.fa 192 ?_; refine' Mine.cs (S := sp_leadI _ _ _ _ _ _ (by first | lia | exact (fm2 _).1 | exact (fm2 _).2) (by first | lia | exact (fm2 _).1 | exact (fm2 _).2) (by first | lia | exact (fm2 _).1 | exact (fm2 _).2) (by first | lia | exact (fm2 _).1 | exact (fm2 _).2) (by first | lia | exact (fm2 _).1 | exact (fm2 _).2) (by first | lia | exact (fm2 _).1 | exact (fm2 _).2)) (h := ?_))
    | (refine Mine.fa 100 ?_; refine' ws_new (by first | exact lead_lt _ _ _ | exact runs_lt _ | assumption) (by first | assumption | (refine lead_len (by lia) (by exact fm2n _))) (h := ?_))
    | (refine Mine.fa 90 ?_; refine' Mine.cs (S := sp_lessL _ _ _ _ _ _ _ _ _ ‹_› ‹_› ‹_› ‹_› ‹_› ‹_› ‹_›) (h := ?_))
    | (refine Mine.fa 199 ?_; refine' Mine.cs (S := sp_hiddenI _ _ _ _ (by (rw [dots_len]; lia)) ((fm3 _).1) ((fm3 _).2)) (h := ?_))
    | (refine Mine.fa 171 ?_; refine' Mine.cs (S := sp_quote _ _ ‹_›) (h := ?_))
    | (refine Mine.fa 204 ?_; refine' Mine.cs (S := sp_runs _ _ _ _ ‹_› ‹_› ‹_› ‹_›) (h := ?_))
    | (refine Mine.fa 76 ?_; refine' Mine.cs (S := sp_equalW _ _ _ _ _ _ ‹_› ‹_› ‹_› ‹_›) (h := ?_))
    | (refine Mine.fa 209 ?_; refine' Mine.cs (S := sp_column _ _ _ _ _ _ ‹_› ‹_› ‹_› (by lia) (by lia)) (h := ?_))); walk_at "c"))
  k_with "zcall ref" => (k_here; k_dflt (refine Mine.fa 185 ?_; refine' Mine.cs (S := sp_lex0 _) (h := ?_); k_whole; intro _ _ _ _ z9P _ z9N z9D; obtain ⟨_, _, _, z9v, z9T, _, _, _, _, _⟩ := z9P; subst z9v; subst z9T; (try dsimp only); (try dsimp only [wsT, List.cons_append, List.nil_append] at z9N z9D)))
  k_with "zbinaryOp LShift int int" => (k_here; k_dflt (refine' lshift_nat ‹_› ‹_› ?_; k_whole))
  k_with "zcall builtin:str.split" => (k_here; (with_reducible show wpAny _ _ (call (Value.builtin "str.split") [Value.str (Tx (flagsL _)) _, Value.str _ _]) _ _ _); k_dflt (refine' split_words (by k_asm) (by k_asm) ‹_› ‹_› ?_; k_whole; intro _ _ _ _ _ _ _ _ _ z9l; (try k_lt z9l)))
  k_with "zcall builtin:list.insert" => (k_here; (with_reducible show wpAny _ _ (call (Value.builtin _) [Value.ref _, Value.int 0 _, _]) _ _ _); k_dflt (refine' insert0 (by k_asm) (by k_asm) (by k_upd) (by (simp; lia)) ?_; k_whole; intro _ _ _))
  k_with "zexec Assign cons ListComp" => (k_here; (with_reducible show wpAny _ _ (exec (Stmt.Assign [Expr.Name _ _] (Expr.ListComp _ [Comprehension.mk (Expr.Name _ _) _ [] _] _ _) _) _) _ _ _); (k_dflt (refine assign_comp_C (F₀ := by k_asm) (by rfl) (by with_unfolding_all rfl) (by with_unfolding_all rfl) (by intro _ _; rfl) (by intro _; rfl) (by rfl) (by decide) (by rfl) (by rfl) (by rfl) ?_)))
  k_with "zm memh" => first | k_mem | (refine List.mem_append_left _ ?_; assumption) | (refine List.mem_cons_of_mem _ ?_; walk_at "m memh")
  k_with "zsubscriptTail Name Name ref int" => (k_here; k_dflt (first | (refine' item_at (by k_asm) (by k_mem) ?z9a ?z9b ‹_› ?_; (case z9a => first | assumption | lia); (case z9b => lia); k_whole) | (refine' item_ix (by k_asm) (by k_mem) ‹_› ?_; k_whole) | (refine' item_tupI (by k_asm) (by k_mem) ‹_› (by lia) (by lia) (by lia) ?_; k_whole; intro _)))
  k_with "zsubscriptTail Name BinOp ref int" => (k_here; k_dflt (first | (refine' item_at (by k_asm) (by k_mem) ?z9a ?z9b ‹_› ?_; (case z9a => first | assumption | lia); (case z9b => lia); k_whole) | (refine' item_last (by k_asm) (by k_mem) ?z9a ?z9b ?z9c ‹_› ?_; (case z9a => lia); (case z9b => lia); (case z9c => lia); k_whole) | (refine' item_ix (by k_asm) (by k_mem) ‹_› ?_; k_whole)))
  k_with "zsubscriptTail Name Constant ref int" => (k_here; k_dflt (first | (refine' item_lstI (by k_asm) (by k_mem) ‹_› (by decide) (by decide) (by decide) ?_; k_whole; intro _) | (refine' item_tup (by k_asm) (by walk_at "m memh") (by decide) (by decide) rfl ?_; k_whole)))
  k_with "zlast subscriptTail" => (k_here; k_dflt (first | ((with_reducible show wpAny _ _ (subscriptTail _ _ (Value.ref _) (Value.int 0 _)) _ _ _); refine' item_tup (by k_asm) (by walk_at "m memh") (by decide) (by decide) rfl ?_; k_whole) | (refine' eol_item (by k_asm) (by k_mem) ‹_› (by lia) ?_; k_whole; intro _)))
  k_with "zbinaryOp Add str str" => (k_here; (with_reducible show wpAny _ _ (binaryOp Operator.Add (Value.str _ _) (Value.str _ _)) _ _ _); k_dflt (refine' add_tx (by first | exact of_dot | exact of_sp2 | exact of_crlf | exact of_nil | (with_reducible rfl)) (by first | exact of_dot | exact of_sp2 | exact of_crlf | exact of_nil | (with_reducible rfl)) (by first | assumption | decide | lia | (simp only [List.length_append, List.length_cons, List.length_nil]; lia)) (by first | assumption | decide | lia | (simp only [List.length_append, List.length_cons, List.length_nil]; lia)) ?_; k_whole; intro _ _))
  k_with "zinplaceOp Add str str" => (k_here; (with_reducible show wpAny _ _ (inplaceOp Operator.Add (Value.str _ _) (Value.str _ _)) _ _ _); k_dflt (refine' iadd_txs (by first | exact of_dot | exact of_sp2 | exact of_crlf | exact of_nil | (with_reducible rfl)) (by first | exact of_dot | exact of_sp2 | exact of_crlf | exact of_nil | (with_reducible rfl)) (by first | assumption | decide | lia | (simp only [List.length_append, List.length_cons, List.length_nil]; lia)) (by first | assumption | decide | lia | (simp only [List.length_append, List.length_cons, List.length_nil]; lia)) ?_; k_whole; intro _ _))
  k_with "zbinaryOp Add ref ref" => (k_here; (with_reducible show wpAny _ _ (binaryOp Operator.Add (Value.ref _) (Value.ref _)) _ _ _); k_dflt (refine' add_lst (by k_asm) (by k_asm) (by k_mem) (by k_mem) (by first | lia | (simp; done) | (simp; lia)) (by first | lia | (simp; done) | (simp; lia)) ?_; k_whole; intro _ _ _ _ z9l; (try k_lt z9l)))
  k_with "zeval ListComp" => (k_here; (with_reducible show wpAny _ _ (eval (Expr.ListComp _ [Comprehension.mk (Expr.Name _ _) _ [] _] _ _) _) _ _ _); k_dflt (refine LCg.ListComp_U (F₀ := by k_asm) (by with_unfolding_all rfl) (by decide) (by rfl) (by decide) (by rfl) ?_))
  k_with "zsetItem ref int" => (k_here; k_dflt (refine' set_at (by k_asm) (by k_asm) ?z9r ?z9s ?z9t (by k_upd) ?_; (case z9r => assumption); (case z9s => lia); (case z9t => assumption)); intro _ _ _)
  k_with "zcall builtin:max" => (k_here; k_dflt (refine' max_two rfl (by k_asm) (by k_asm) (by k_mem) ‹_› ?_; k_whole; intro _ _ _ _ _))
  trivial
section
theorem sum_le : ∀ (ks : List Int) (b : Int), (∀ h ∈ ks, 0 ≤ h ∧ h ≤ b) → 0 ≤ ks.sum ∧ ks.sum ≤ b * ks.length
  | [], b, _ => by simp
  | k :: r, b, h => by
    have a := sum_le r b fun x hx => h x (List.mem_cons_of_mem _ hx)
    have c := h k List.mem_cons_self
    rw [List.sum_cons, List.length_cons]
    refine ⟨by lia, ?_⟩
    rw [Int.natCast_add, Int.mul_add]
    lia
noncomputable section
namespace E_seg_0
def P (w : World) (g : Heap) (s : Shared) (p : Program) (loose : List Str) (mean : EoV) (mg mb : SoV) (L' : Addr) (Q : FsP) (E : VsP) (m : SoV) (rest : List Stmt) (sc : Addr) (vs : List Value) (ns : List Int) (c1 c2 c3 c4 c5 c6 c7 c8 c9 c10 c11 : Obj) : Prop := (IntsAre vs ns) → (ns.length ≤ 63) → (g.IsList sc vs.toArray) → (c1.data = .cell (some (.ref sc))) → (c2.data = .cell none) → (c3.data = .cell none) → (c4.data = .cell none) → (c5.data = .cell none) → (c6.data = .cell none) → (c7.data = .cell none) → (c8.data = .cell none) → (c9.data = .cell none) → (c10.data = .cell none) → (c11.data = .cell none) → SegKS w g s p loose mean mg mb L' Q E m rest (lawRun 0 1 lawBody rest) [] ([(L' + 11, c11), (L' + 10, c10), (L' + 9, c9), (L' + 8, c8), (L' + 7, c7), (L' + 6, c6), (L' + 5, c5), (L' + 4, c4), (L' + 3, c3), (L' + 2, c2), (L' + 1, c1), (180, tabObj #[])]) (fun K => ∀ (D : Addr) (ys : List Value) (h0 h1 h2 h3 : Int), IntsAre ys [h0, h1, h2, h3] → (∀ h ∈ [h0, h1, h2, h3], 0 ≤ h ∧ h ≤ 100000000) → K [(Str.ofString "heaps", .ref D)] ((D, lst ys) :: [(L' + 11, c11), (L' + 10, c10), (L' + 9, c9), (L' + 8, c8), (L' + 7, c7), (L' + 6, c6), (L' + 5, c5), (L' + 4, c4), (L' + 3, c3), (L' + 2, c2), (L' + 1, c1), (180, tabObj #[])]))
@[irreducible] def ζ := upick (by walk_at "m ne") ((ucat un16 (ucat un8 (ucat un2 un1))) P)
@[irreducible] def w := ζ.1.1.1.1.1
@[irreducible] def g := ζ.1.1.1.1.2
@[irreducible] def s := ζ.1.1.1.2.1
@[irreducible] def L' := ζ.1.2.1.1.1
@[irreducible] def Q := ζ.1.2.1.1.2
@[irreducible] def E := ζ.1.2.1.2.1
@[irreducible] def m := ζ.1.2.1.2.2
@[irreducible] def rest := ζ.1.2.2.1.1
theorem core : P w g s ζ.1.1.1.2.2 ζ.1.1.2.1.1 ζ.1.1.2.1.2 ζ.1.1.2.2.1 ζ.1.1.2.2.2 L' Q E m rest ζ.1.2.2.1.2 ζ.1.2.2.2.1 ζ.1.2.2.2.2 ζ.2.1.1.1.1 ζ.2.1.1.1.2 ζ.2.1.1.2.1 ζ.2.1.1.2.2 ζ.2.1.2.1.1 ζ.2.1.2.1.2 ζ.2.1.2.2.1 ζ.2.1.2.2.2 ζ.2.2.1.1 ζ.2.2.1.2 ζ.2.2.2 := by
  intro ia hln hl d1 d2 d3 d4 d5 d6 d7 d8 d9 d10 d11 X Tp F N ND K kk k
  revert X; k_fill; intro X
  show wpAny _ _ (execs (_ :: rest) _) _ _ _
  dsimp only [lawEnv, List.map] at *
  have hvl : ζ.1.2.2.2.1.length ≤ 10000 := by have := ia.length; lia
  walk_at "m go"
  unfold Halt
  refine enum_src (fun i ys T => (∃ hs : List Int, IntsAre ys hs ∧ hs.length = i ∧ ∀ h ∈ hs, 0 ≤ h ∧ h ≤ 100000000) ∧ T = _) (by rfl) ‹_› ‹_› ‹_› (by k_mem) (by simp) (fun i ys T j => by rw [j.2]; k_mem) ⟨⟨[], .nil, rfl, by simp⟩, rfl⟩ ?_ ?_
  · intro I It i t_ v ys T oI oT C oC D m₂ h₂ tk₂ E₂ hi hv j hC hx hx2 F₂ N₂ nd₂
    obtain ⟨⟨hs, hy, hln₂, hb⟩, rfl⟩ := j
    obtain ⟨z, u, rfl, hz⟩ : ∃ (z : Int) (u : Tok), v = .int z u ∧ 0 ≤ z ∧ z ≤ 8 := by
      have hi' : i < 4 := hi
      obtain rfl | rfl | rfl | rfl : i = 0 ∨ i = 1 ∨ i = 2 ∨ i = 3 := by lia
      all_goals (cases hv; exact ⟨_, _, rfl, by decide, by decide⟩)
    have hi4 : i < 4 := hi
    clear hv hi
    dsimp only at F₂ N₂ ⊢
    walk_at "m go"
    unfold Halt
    rename_i us _ hus hul _ _ _
    have hiu : IntsAre us _ := hus ▸ IntsAre.pick ia (some (i : Int)) (some 24) (some 4)
    clear hus
    refine comp_list (vs := us) (J := fun i ys T => (∃ ks : List Int, IntsAre ys ks ∧ ks.length = i ∧ ∀ h ∈ ks, 0 ≤ h ∧ h ≤ 1000000) ∧ T = _) (by rfl) ‹_› ‹_› ‹_› (by lia) ⟨⟨[], .nil, rfl, by simp⟩, rfl⟩ (fun i ys T j => by rw [j.2]; k_mem) ?_ ?_
    · intro i' v' ys' T' I' oI' C' oC' D' m₃ h₃ tk₃ E₃ hi' hv' j' hC' hx' F₃ N₃ nd₃
      obtain ⟨⟨ks, hks, hkl, hkb⟩, rfl⟩ := j'
      obtain ⟨k₀, u₀, rfl⟩ : ∃ (k : Int) (u : Tok), v' = .int k u := by obtain ⟨k, u, e, _⟩ := hiu.at _ _ hv'; exact ⟨k, u, e⟩
      dsimp only at F₃ N₃ ⊢
      walk_at "m go"
      refine TurnC.mk (rest := ?rs) ‹_› ‹_› ‹_› _ ?tk ⟨⟨ks ++ [k₀.fmod 1000000], hks.append (.cons _ _ .nil), by simp [hkl], ?hb⟩, rfl⟩
      case tk => walk_at "m take"
      case hb =>
        intro h hm
        rcases List.mem_append.mp hm with hm | hm
        · exact hkb h hm
        · rw [List.mem_singleton] at hm; subst hm; rw [Int.fmod_eq_emod_of_nonneg _ (by decide)]; lia
    intro gg ys' T' j' nd' D' h₃ tk₃ F₃ N₃ o1
    obtain ⟨⟨ks, hks, hkl, hkb⟩, rfl⟩ := j'
    have ND₃ := apart1_of o1 nd'
    clear o1 nd'
    dsimp only at *
    walk_at "m go"
    have hs1 := sum_le ks 1000000 hkb
    refine TurnC.mk (rest := ?rs2) ‹_› ‹_› ‹_› _ ?tk2 ⟨_, rfl, ⟨hs ++ [z + ks.sum], hy.append (.cons _ _ .nil), by simp [hln₂], ?hb2⟩, rfl⟩
    case tk2 => walk_at "m take"
    case hb2 =>
      intro h hm
      rcases List.mem_append.mp hm with hm | hm
      · exact hb h hm
      · rw [List.mem_singleton] at hm; subst hm
        have := ia.length
        lia
  intro gg ys T j nd D h₃ tk₃ F₃ N₃ o1
  obtain ⟨⟨hs, hy, hln₂, hb⟩, rfl⟩ := j
  have ND₃ := apart1_of o1 nd
  clear o1 nd
  dsimp only at *
  match hs, hln₂ with
  | [h0, h1, h2, h3], _ =>
    refine seg_end (kk _ _ (k D ys h0 h1 h2 h3 hy hb)) (rs := ?rs3) ‹_› ‹_› ‹_› ?l ?t
    case l => walk_at "m loc"
    case t => walk_at "m take"
end E_seg_0
end
theorem seg_0 : ∀ {w g s p loose mean mg mb L' Q E m rest sc vs ns c1 c2 c3 c4 c5 c6 c7 c8 c9 c10 c11}, E_seg_0.P w g s p loose mean mg mb L' Q E m rest sc vs ns c1 c2 c3 c4 c5 c6 c7 c8 c9 c10 c11 := fun {w g s p loose mean mg mb L' Q E m rest sc vs ns c1 c2 c3 c4 c5 c6 c7 c8 c9 c10 c11} => by with_unfolding_all exact pk (c := E_seg_0.ζ) rfl E_seg_0.core (((((w, g), (s, p)), ((loose, mean), (mg, mb))), (((L', Q), (E, m)), ((rest, sc), (vs, ns)))), ((((c1, c2), (c3, c4)), ((c5, c6), (c7, c8))), ((c9, c10), c11)))
end
section
theorem fm (a : Int) {b : Int} (h : 0 < b) : 0 ≤ a.fmod b ∧ a.fmod b < b := by
  rw [Int.fmod_eq_emod_of_nonneg _ (Int.le_of_lt h)]
  exact ⟨Int.emod_nonneg _ (by lia), Int.emod_lt_of_pos _ h⟩
theorem pow_ge {a : Int} (h0 : 0 ≤ a) (h1 : a < 3) : (14 : Int) ≤ 2 ^ (4 + a).toNat - 2 := by
  obtain rfl | rfl | rfl : a = 0 ∨ a = 1 ∨ a = 2 := by lia
  all_goals decide
noncomputable section
namespace E_seg_1
def P (w : World) (g : Heap) (s : Shared) (p : Program) (loose : List Str) (mean : EoV) (mg mb : SoV) (L' : Addr) (Q : FsP) (E : VsP) (m : SoV) (rest : List Stmt) (sc D : Addr) (ys : List Value) (h0 h1 h2 h3 : Int) (c1 c2 c3 c4 c5 c6 c7 c8 c9 c10 c11 : Obj) : Prop := (IntsAre ys [h0, h1, h2, h3]) → (∀ h ∈ [h0, h1, h2, h3], 0 ≤ h ∧ h ≤ 100000000) → (c1.data = .cell (some (.ref sc))) → (c2.data = .cell none) → (c3.data = .cell none) → (c4.data = .cell none) → (c5.data = .cell none) → (c6.data = .cell none) → (c7.data = .cell none) → (c8.data = .cell none) → (c9.data = .cell none) → (c10.data = .cell none) → (c11.data = .cell none) → SegKS w g s p loose mean mg mb L' Q E m rest (lawRun 1 4 lawBody rest) [(Str.ofString "heaps", .ref D)] ((D, lst ys) :: [(L' + 11, c11), (L' + 10, c10), (L' + 9, c9), (L' + 8, c8), (L' + 7, c7), (L' + 6, c6), (L' + 5, c5), (L' + 4, c4), (L' + 3, c3), (L' + 2, c2), (L' + 1, c1), (180, tabObj #[])]) (fun K => ∀ (zt zn zb zu : Int) (u1 u2 u3 u4 : Tok) (c2 : Obj), 4 ≤ zt → zt ≤ 6 → 1 ≤ zn → zn ≤ 2 ^ zt.toNat - 2 → 0 ≤ zb → zb ≤ 8 → 0 ≤ zu → zu ≤ 11 → c2.data = .cell (some (.int zb u3)) → K [(Str.ofString "turn", .int zu u4), (Str.ofString "number", .int zn u2), (Str.ofString "total", .int zt u1), (Str.ofString "heaps", .ref D)] ((D, lst ys) :: [(L' + 11, c11), (L' + 10, c10), (L' + 9, c9), (L' + 8, c8), (L' + 7, c7), (L' + 6, c6), (L' + 5, c5), (L' + 4, c4), (L' + 3, c3), (L' + 2, c2), (L' + 1, c1), (180, tabObj #[])]))
@[irreducible] def ζ := upick (by walk_at "m ne") ((ucat un16 (ucat un8 (ucat un4 (ucat un2 un1)))) P)
@[irreducible] def w := ζ.1.1.1.1.1
@[irreducible] def g := ζ.1.1.1.1.2
@[irreducible] def s := ζ.1.1.1.2.1
@[irreducible] def p := ζ.1.1.1.2.2
@[irreducible] def L' := ζ.1.2.1.1.1
@[irreducible] def Q := ζ.1.2.1.1.2
@[irreducible] def E := ζ.1.2.1.2.1
@[irreducible] def m := ζ.1.2.1.2.2
@[irreducible] def rest := ζ.1.2.2.1.1
@[irreducible] def h0 := ζ.2.1.1.1.1
@[irreducible] def h1 := ζ.2.1.1.1.2
@[irreducible] def h2 := ζ.2.1.1.2.1
@[irreducible] def h3 := ζ.2.1.1.2.2
theorem core : P w g s p ζ.1.1.2.1.1 ζ.1.1.2.1.2 ζ.1.1.2.2.1 ζ.1.1.2.2.2 L' Q E m rest ζ.1.2.2.1.2 ζ.1.2.2.2.1 ζ.1.2.2.2.2 h0 h1 h2 h3 ζ.2.1.2.1.1 ζ.2.1.2.1.2 ζ.2.1.2.2.1 ζ.2.1.2.2.2 ζ.2.2.1.1.1 ζ.2.2.1.1.2 ζ.2.2.1.2.1 ζ.2.2.1.2.2 ζ.2.2.2.1.1 ζ.2.2.2.1.2 ζ.2.2.2.2 := by
  intro hy hb d1 d2 d3 d4 d5 d6 d7 d8 d9 d10 d11 X Tp F N ND K kk k
  revert X; k_fill; intro X
  show wpAny _ _ (execs (_ :: _ :: _ :: _ :: rest) _) _ _ _
  dsimp only [lawEnv, List.map] at *
  walk_at "m go"
  · exfalso
    rename (2 ^ _ - 2 = (0 : Int)) => a3
    have a := fm ([h0, h1, h2, h3].getD (Int.toNat 1) 0) (b := 3) (by decide)
    have := pow_ge a.1 a.2
    lia
  · dsimp only
    have a := fm ([h0, h1, h2, h3].getD (Int.toNat 1) 0) (b := 3) (by decide)
    have p := pow_ge a.1 a.2
    have b := fm ([h0, h1, h2, h3].getD (Int.toNat 0) 0) (b := 2 ^ (4 + ([h0, h1, h2, h3].getD (Int.toNat 1) 0).fmod 3).toNat - 2) (by lia)
    have c := fm ([h0, h1, h2, h3].getD (Int.toNat 2) 0) (b := 9) (by decide)
    have d := fm ([h0, h1, h2, h3].getD (Int.toNat 3) 0) (b := 12) (by decide)
    refine' seg_end (kk _ _ (k (4 + ([h0, h1, h2, h3].getD (Int.toNat 1) 0).fmod 3) (1 + ([h0, h1, h2, h3].getD (Int.toNat 0) 0).fmod (2 ^ (4 + ([h0, h1, h2, h3].getD (Int.toNat 1) 0).fmod 3).toNat - 2)) (([h0, h1, h2, h3].getD (Int.toNat 2) 0).fmod 9) (([h0, h1, h2, h3].getD (Int.toNat 3) 0).fmod 12) _ _ _ _ _ (by lia) (by lia) (by lia) (by lia) (by lia) (by lia) (by lia) (by lia) ?cc)) (rs := ?rs3) ?F ?N ?nd ?l ?t
    case F => assumption
    case N => assumption
    case nd => assumption
    case l => walk_at "m loc"
    case t => walk_at "m take"
    case cc => assumption
end E_seg_1
end
theorem seg_1 : ∀ {w g s p loose mean mg mb L' Q E m rest sc D ys h0 h1 h2 h3 c1 c2 c3 c4 c5 c6 c7 c8 c9 c10 c11}, E_seg_1.P w g s p loose mean mg mb L' Q E m rest sc D ys h0 h1 h2 h3 c1 c2 c3 c4 c5 c6 c7 c8 c9 c10 c11 := fun {w g s p loose mean mg mb L' Q E m rest sc D ys h0 h1 h2 h3 c1 c2 c3 c4 c5 c6 c7 c8 c9 c10 c11} => by with_unfolding_all exact pk (c := E_seg_1.ζ) rfl E_seg_1.core (((((w, g), (s, p)), ((loose, mean), (mg, mb))), (((L', Q), (E, m)), ((rest, sc), (D, ys)))), ((((h0, h1), (h2, h3)), ((c1, c2), (c3, c4))), (((c5, c6), (c7, c8)), ((c9, c10), c11))))
end
section
section
variable {prog : Program} {w : World} {A : Around} {E : Value → Shared → Prop} {s : Shared} {g : Heap} {L : Addr} {m : Str → Option Value} {led : List (Addr × Obj)}
theorem join_len (sep : List Nat) (M : Nat) : ∀ ls : List (List Nat), (∀ l ∈ ls, l.length ≤ M) → (joinL sep ls).length ≤ ls.length * (M + sep.length)
  | [], _ => Nat.zero_le _
  | [x], h => by
    have := h x List.mem_cons_self
    show x.length ≤ 1 * _
    lia
  | x :: y :: r, h => by
    have ih := join_len sep M (y :: r) fun l hl => h l (List.mem_cons_of_mem _ hl)
    have := h x List.mem_cons_self
    show (x ++ sep ++ joinL sep (y :: r)).length ≤ ((y :: r).length + 1) * _
    rw [List.length_append, List.length_append, Nat.add_mul]
    lia
theorem nameL_len : ∀ i : Nat, (nameL i).length ≤ 19
  | 0 | 1 | 2 | 3 | 4 | 5 | 6 | 7 | 8 | 9 | 10 | 11 | 12 | 13 => by decide
  | _ + 14 => Nat.zero_le _
theorem namesF_len (f : Nat) : (namesF f 14).length ≤ 14 := by
  unfold namesF
  rw [List.length_map]
  exact Nat.le_trans (List.length_filter_le _ _) (by simp)
theorem flags_len (f : Nat) : (flagsL f).length ≤ 294 := by
  refine Nat.le_trans (join_len [44, 32] 19 _ fun l hl => ?_) (Nat.mul_le_mul_right 21 (namesF_len f))
  obtain ⟨i, _, rfl⟩ := List.mem_map.mp hl
  exact nameL_len i
theorem txs_len {vs : List Value} {ls : List (List Nat)} (h : TxsAre vs ls) : vs.length = ls.length := by
  have := StrsAre.length h
  rwa [List.length_map] at this
theorem split_words {f : Nat} {t u : Tok} {Q : Value → Shared → Prop} (F : Fr g L s.heap m) (N : News g L s.heap led) (h0 : 1 ≤ f) (h1 : f < 16384)
    (h : ∀ D vs h' k, TxsAre vs (namesF f 14) → vs.length = (namesF f 14).length → vs.length ≤ 14 → Fr g L h' m → News g L h' ((D, W.listOf vs.toArray 0) :: led) → (∀ p ∈ led, p.1 < D) → Q (.ref D) { s with heap := h', toks := k }) :
    wpAny (model prog w) A (call (.builtin "str.split") [.str (Tx (flagsL f)) t, .str (Str.ofString ", ") u]) Q E s := by
  have e : Str.ofString ", " = Tx [44, 32] := by decide +kernel
  rw [e]
  refine KSpl.split1 F N (by decide) (fun D l h' k e a F' N' lt => (fun tx => h D _ h' k tx (txs_len tx) (by rw [txs_len tx]; exact namesF_len f) F' N' lt) ?_) (size_line (by rw [tx_len]; have := flags_len f; lia))
  rw [e, split_flags h0 h1] at a
  exact a
theorem lshift_nat {n b : Nat} {t u : Tok} {Q : Value → Shared → Prop} (hn : n ≤ 62) (hb : b ≤ 8) (h : Q (.int ((n * 2 ^ b : Nat) : Int) s.toks) { s with toks := s.toks + 1 }) :
    wpAny (model prog w) A (binaryOp .LShift (.int (n : Int) t) (.int (b : Int) u)) Q E s := by
  refine lshift_int_small (by lia) (by lia) (by lia) ?_
  rw [Int.toNat_natCast, show ((n : Int) * 2 ^ b) = ((n * 2 ^ b : Nat) : Int) by rw [Int.natCast_mul, Int.natCast_pow]; rfl]
  exact h
end
theorem sp_lex0 {w : World} (t0 : Tok) : Spec w 880 185 [.str (Str.ofString "") t0] ([(180, tabObj #[])]) (fun v T' => ∃ (d : Hd) (e : St) (tb : Tb), v = .ref d.x ∧ T' = hdT w d ++ stT e ++ tbT tb ∧ d.fp = e.f1 ∧ d.ln = 1 ∧ d.vs = [] ∧ TbOk tb ∧ StOk w e tb []) := by
  rw [show Str.ofString "" = Tx [] from by decide +kernel]
  exact sp_lexer [] t0 (by simp) (by simp)
noncomputable section
namespace E_seg_2
def P (w : World) (g : Heap) (s : Shared) (p : Program) (loose : List Str) (mean : EoV) (mg mb : SoV) (L' : Addr) (Q : FsP) (E : VsP) (m : SoV) (rest : List Stmt) (sc D : Addr) (ys : List Value) (n t ba tu : Nat) (u1 u2 u3 u4 : Tok) (c1 c2 c3 c4 c5 c6 c7 c8 c9 c10 c11 : Obj) : Prop := (4 ≤ t) → (t ≤ 6) → (n ≤ 62) → (ba ≤ 8) → (1 ≤ n * 2 ^ ba) → (n * 2 ^ ba < 16384) → (c1.data = .cell (some (.ref sc))) → (c2.data = .cell (some (.int (ba : Int) u3))) → (c3.data = .cell none) → (c4.data = .cell none) → (c5.data = .cell none) → (c6.data = .cell none) → (c7.data = .cell none) → (c8.data = .cell none) → (c9.data = .cell none) → (c10.data = .cell none) → (c11.data = .cell none) → SegKS w g s p loose mean mg mb L' Q E m rest (lawRun 5 4 lawBody rest) [(Str.ofString "turn", .int (tu : Int) u4), (Str.ofString "number", .int (n : Int) u2), (Str.ofString "total", .int (t : Int) u1), (Str.ofString "heaps", .ref D)] ((D, lst ys) :: [(L' + 11, c11), (L' + 10, c10), (L' + 9, c9), (L' + 8, c8), (L' + 7, c7), (L' + 6, c6), (L' + 5, c5), (L' + 4, c4), (L' + 3, c3), (L' + 2, c2), (L' + 1, c1), (180, tabObj #[])]) (fun K => ∀ (D2 : Addr) (wv : List Value) (u5 u6 : Tok) (c3' c4' : Obj) (dd : Hd) (tb : Tb), TxsAre wv (namesF (n * 2 ^ ba) 14) → c3'.data = .cell (some (.int (wv.length : Int) u5)) → c4'.data = .cell (some (.int ((t : Int) - (wv.length : Int)) u6)) → dd.vs = [] → TbOk tb → K [(Str.ofString "ring", .ref dd.x), (Str.ofString "words", .ref D2), (Str.ofString "turn", .int (tu : Int) u4), (Str.ofString "number", .int (n : Int) u2), (Str.ofString "total", .int (t : Int) u1), (Str.ofString "heaps", .ref D)] (hdT w dd ++ tbT tb ++ (D2, W.listOf wv.toArray 0) :: (D, lst ys) :: [(L' + 11, c11), (L' + 10, c10), (L' + 9, c9), (L' + 8, c8), (L' + 7, c7), (L' + 6, c6), (L' + 5, c5), (L' + 4, c4'), (L' + 3, c3'), (L' + 2, c2), (L' + 1, c1)]))
@[irreducible] def ζ := upick (by walk_at "m ne") ((ucat un32 (ucat un2 un1)) P)
@[irreducible] def w := ζ.1.1.1.1.1.1
@[irreducible] def g := ζ.1.1.1.1.1.2
@[irreducible] def s := ζ.1.1.1.1.2.1
@[irreducible] def L' := ζ.1.1.2.1.1.1
@[irreducible] def Q := ζ.1.1.2.1.1.2
@[irreducible] def E := ζ.1.1.2.1.2.1
@[irreducible] def m := ζ.1.1.2.1.2.2
@[irreducible] def rest := ζ.1.1.2.2.1.1
theorem core : P w g s ζ.1.1.1.1.2.2 ζ.1.1.1.2.1.1 ζ.1.1.1.2.1.2 ζ.1.1.1.2.2.1 ζ.1.1.1.2.2.2 L' Q E m rest ζ.1.1.2.2.1.2 ζ.1.1.2.2.2.1 ζ.1.1.2.2.2.2 ζ.1.2.1.1.1.1 ζ.1.2.1.1.1.2 ζ.1.2.1.1.2.1 ζ.1.2.1.1.2.2 ζ.1.2.1.2.1.1 ζ.1.2.1.2.1.2 ζ.1.2.1.2.2.1 ζ.1.2.1.2.2.2 ζ.1.2.2.1.1.1 ζ.1.2.2.1.1.2 ζ.1.2.2.1.2.1 ζ.1.2.2.1.2.2 ζ.1.2.2.2.1.1 ζ.1.2.2.2.1.2 ζ.1.2.2.2.2.1 ζ.1.2.2.2.2.2 ζ.2.1.1 ζ.2.1.2 ζ.2.2 := by
  intro ht4 ht6 hn62 hb8 hf0 hf1 d1 d2 d3 d4 d5 d6 d7 d8 d9 d10 d11 X Tp F N ND K kk k
  revert X; k_fill; intro X
  show wpAny _ _ (execs (_ :: _ :: _ :: _ :: rest) _) _ _ _
  dsimp only [lawEnv, List.map] at *
  walk_at "m go"
  dsimp only
  rename Hd => dd
  rename Tb => tb
  rename TxsAre _ _ => hx
  walk_say "END"
  refine' seg_end (kk _ _ (k _ _ _ _ _ _ dd tb hx ?e3 ?e4 ?hv ?htb)) (rs := ?rs3) ?F ?N ?nd ?l ?t
  case F => assumption
  case N => assumption
  case nd => assumption
  walk_say "E1"
  case l => walk_at "m loc"
  walk_say "E2"
  case t => walk_at "m take"
  walk_say "E3"
  case e3 => assumption
  case e4 => assumption
  case hv => assumption
  case htb => assumption
end E_seg_2
end
theorem seg_2 : ∀ {w g s p loose mean mg mb L' Q E m rest sc D ys n t ba tu u1 u2 u3 u4 c1 c2 c3 c4 c5 c6 c7 c8 c9 c10 c11}, E_seg_2.P w g s p loose mean mg mb L' Q E m rest sc D ys n t ba tu u1 u2 u3 u4 c1 c2 c3 c4 c5 c6 c7 c8 c9 c10 c11 := fun {w g s p loose mean mg mb L' Q E m rest sc D ys n t ba tu u1 u2 u3 u4 c1 c2 c3 c4 c5 c6 c7 c8 c9 c10 c11} => by with_unfolding_all exact pk (c := E_seg_2.ζ) rfl E_seg_2.core ((((((w, g), (s, p)), ((loose, mean), (mg, mb))), (((L', Q), (E, m)), ((rest, sc), (D, ys)))), ((((n, t), (ba, tu)), ((u1, u2), (u3, u4))), (((c1, c2), (c3, c4)), ((c5, c6), (c7, c8))))), ((c9, c10), c11))
end
section
theorem sp_lnameI {w : World} (z : Int) (h0 : 0 ≤ z) (h1 : z < 14) (t1 : Tok) : Spec w 900 178 [.int z t1] [] (fun v T' => StrV v (nameL z.toNat) ∧ T' = []) := by
  obtain ⟨k, rfl⟩ := Int.eq_ofNat_of_zero_le h0
  rw [Int.toNat_natCast]
  exact sp_lname k (by lia) t1
theorem any_tx (ls : List (List Nat)) (l : List Nat) : ((ls.map Tx).any fun x => x == Tx l) = decide (l ∈ ls) := by
  apply Bool.eq_iff_iff.mpr
  rw [List.any_eq_true, decide_eq_true_iff]
  constructor
  · rintro ⟨x, hx, e⟩
    obtain ⟨y, hy, rfl⟩ := List.mem_map.mp hx
    rw [← tx_inj (eq_of_beq e)]; exact hy
  · intro h
    exact ⟨Tx l, List.mem_map_of_mem h, beq_self_eq_true _⟩
theorem push_bit {ba t i : Nat} {z : Int} {ls : List (List Nat)} {vs : List Value} {b : Bool} {x : Str} {u : Tok} (hz : z = (ba : Int) + t - 1 - (0 + (i : Int) * 1)) (hi : i < t) (h : TxsAre vs ((List.range i).map fun k => bitW (decide (nameL (ba + t - 1 - k) ∈ ls))))
    (e : ((ls.map Tx).any fun x => x == Tx (nameL z.toNat)) = b) (hx : x = Tx (bitW b)) : TxsAre (vs ++ [.str x u]) ((List.range (i + 1)).map fun k => bitW (decide (nameL (ba + t - 1 - k) ∈ ls))) := by
  rw [any_tx] at e
  have e2 : z.toNat = ba + t - 1 - i := by lia
  rw [e2] at e
  rw [List.range_succ, List.map_append, List.map_cons, List.map_nil, e, hx]
  simpa [TxsAre] using strs_app h (.cons (Tx (bitW b)) u .nil)
theorem seg_3 {w : World} {g : Heap} {s : Shared} {p : Program} {loose : List Str} {mean : ExcName → Option Value} {mg : Str → Option Value} {mb : Str → Option Value} {L' : Addr} {Q : Flow → Shared → Prop} {E : Value → Shared → Prop} {m : Str → Option Value} {rest : List Stmt} {sc : Addr} {D : Addr} {D2 : Addr} {ys : List Value} {wv : List Value} {n : Nat} {t : Nat} {ba : Nat} {tu : Nat} {wd : Nat} {hi : Nat} {u1 : Tok} {u2 : Tok} {u3 : Tok} {u4 : Tok} {u5 : Tok} {u6 : Tok} {dd : Hd} {tb : Tb} {ls : List (List Nat)} {c1 : Obj} {c2 : Obj} {c3 : Obj} {c4 : Obj} {c5 : Obj} {c6 : Obj} {c7 : Obj} {c8 : Obj} {c9 : Obj} {c10 : Obj} {c11 : Obj} (ht4 : 4 ≤ t) (ht6 : t ≤ 6) (hb8 : ba ≤ 8) (hw : TxsAre wv ls) (hwl : wv.length ≤ 14) (hd0 : dd.vs = []) (d1 : c1.data = .cell (some (.ref sc))) (d2 : c2.data = .cell (some (.int (ba : Int) u3))) (d3 : c3.data = .cell (some (.int (wd : Int) u5))) (d4 : c4.data = .cell (some (.int (hi : Int) u6))) (d5 : c5.data = .cell none) (d6 : c6.data = .cell none) (d7 : c7.data = .cell none) (d8 : c8.data = .cell none) (d9 : c9.data = .cell none) (d10 : c10.data = .cell none) (d11 : c11.data = .cell none) (X : (hd.heap_39 w.params).In g) (Tp : Top p loose mean mg mb g) (F : Fr g L' s.heap (over [(Str.ofString "ring", .ref dd.x), (Str.ofString "words", .ref D2), (Str.ofString "turn", .int (tu : Int) u4), (Str.ofString "number", .int (n : Int) u2), (Str.ofString "total", .int (t : Int) u1), (Str.ofString "heaps", .ref D)] m)) (N : News g L' s.heap (hdT w dd ++ tbT tb ++ (D2, W.listOf wv.toArray 0) :: (D, lst ys) :: [(L' + 11, c11), (L' + 10, c10), (L' + 9, c9), (L' + 8, c8), (L' + 7, c7), (L' + 6, c6), (L' + 5, c5), (L' + 4, c4), (L' + 3, c3), (L' + 2, c2), (L' + 1, c1)])) (ND : Apart ((hdT w dd ++ tbT tb ++ (D2, W.listOf wv.toArray 0) :: (D, lst ys) :: [(L' + 11, c11), (L' + 10, c10), (L' + 9, c9), (L' + 8, c8), (L' + 7, c7), (L' + 6, c6), (L' + 5, c5), (L' + 4, c4), (L' + 3, c3), (L' + 2, c2), (L' + 1, c1)]).map (·.1))) (K : List (Str × Value) → List (Addr × Obj) → Prop) (kk : ∀ V T, K V T → KontK w g L' rest Q E s V T) (k : (fun K => ∀ (dd' : Hd), dd'.x = dd.x → dd'.vs.length ≤ t → TxsAre dd'.vs ((List.range t).map (fun k => bitW (decide (nameL (ba + t - 1 - k) ∈ ls)))) → K [(Str.ofString "ring", .ref dd.x), (Str.ofString "words", .ref D2), (Str.ofString "turn", .int (tu : Int) u4), (Str.ofString "number", .int (n : Int) u2), (Str.ofString "total", .int (t : Int) u1), (Str.ofString "heaps", .ref D)] (hdT w dd' ++ tbT tb ++ (D2, W.listOf wv.toArray 0) :: (D, lst ys) :: [(L' + 11, c11), (L' + 10, c10), (L' + 9, c9), (L' + 8, c8), (L' + 7, c7), (L' + 6, c6), (L' + 5, c5), (L' + 4, c4), (L' + 3, c3), (L' + 2, c2), (L' + 1, c1)])) K) :
    wpAny (model Challenge.rw_uc0019_01.row.prog w) ((Lv 850).deeper (lawEnv L')) (execs (lawRun 9 1 lawBody rest) (lawEnv L')) Q E s := by
  revert X; k_fill; intro X
  show wpAny _ _ (execs (_ :: rest) _) _ _ _
  dsimp only [lawEnv, List.map] at *
  walk_at "m go"
  walk_at "m for"
  walk_at "m go"
  refine' for_rangeT (L := L') (n := t) (J := fun i V T => ∃ dd' : Hd, dd'.x = dd.x ∧ dd'.vs.length ≤ i ∧ TxsAre dd'.vs ((List.range i).map (fun k => bitW (decide (nameL (ba + t - 1 - k) ∈ ls)))) ∧ V = [(Str.ofString "ring", .ref dd.x), (Str.ofString "words", .ref D2), (Str.ofString "turn", .int (tu : Int) u4), (Str.ofString "number", .int (n : Int) u2), (Str.ofString "total", .int (t : Int) u1), (Str.ofString "heaps", .ref D)] ∧ T = hdT w dd' ++ tbT tb ++ (D2, W.listOf wv.toArray 0) :: (D, lst ys) :: [(L' + 11, c11), (L' + 10, c10), (L' + 9, c9), (L' + 8, c8), (L' + 7, c7), (L' + 6, c6), (L' + 5, c5), (L' + 4, c4), (L' + 3, c3), (L' + 2, c2), (L' + 1, c1)]) (V₀ := _) (by rfl) ‹_› ?hsm ?hn (by rfl) (by rfl) (by rfl) ‹_› ?lc ‹_› (by k_dflt assumption) ⟨dd, rfl, by rw [hd0]; exact Nat.le_refl _, by rw [hd0]; exact .nil, rfl, rfl⟩ ?tk ?_ ?_
  case hsm => exact rg_small (by lia) (by lia) (by lia) (by lia)
  case hn => exact rg_size (by split <;> lia)
  case lc => walk_at "m loc"
  case tk => walk_at "m take"
  · intro i t_ m V T h₁ tk₁ I oI E' hi j F₁ N₁ nd₁
    obtain ⟨dd', hdx, hdl, hdv, rfl, rfl⟩ := j
    have hdl2 : dd'.vs.length ≤ 20 := by lia
    rw [← hdx] at F₁ ⊢
    dsimp only [hdT, tbT, List.cons_append, List.nil_append] at N₁ nd₁
    walk_at "m go"
    · refine' turn_next ‹_› ‹_› (by k_dflt assumption) _ _ ⟨{ dd' with vs := dd'.vs ++ [.str (Str.ofString "1") _], n := dd'.n + 1 }, rfl, ?hl, push_bit (b := true) rfl hi hdv ‹_› (by decide +kernel), rfl, rfl⟩ ?l ?tk
      case l => walk_at "m loc"
      case tk => walk_at "m take"
      case hl => rw [List.length_append]; simp; lia
    · refine' turn_next ‹_› ‹_› (by k_dflt assumption) _ _ ⟨{ dd' with vs := dd'.vs ++ [.str (Str.ofString "0") _], n := dd'.n + 1 }, rfl, ?hl, push_bit (b := false) rfl hi hdv ‹_› (by decide +kernel), rfl, rfl⟩ ?l ?tk
      case l => walk_at "m loc"
      case tk => walk_at "m take"
      case hl => rw [List.length_append]; simp; lia
  · intro m V T h₁ tk₁ E' j F₁ N₁ nd₁
    obtain ⟨dd', hdx, hdl, hdv, rfl, rfl⟩ := j
    dsimp only [hdT, tbT, List.cons_append, List.nil_append] at N₁ nd₁
    walk_at "m go"
    try dsimp only
    refine' seg_end (kk _ _ (k dd' hdx hdl hdv)) (rs := ?rs3) ?F ?N ?nd ?l ?t
    case F => assumption
    case N => assumption
    case nd => assumption
    case l => walk_at "m loc"
    case t => walk_at "m take"
end
section
theorem runs_snoc {rs : List (Addr × List Value × Nat)} {U : List (Addr × Obj)} {a : Addr} (hU : U.Perm (runsT rs)) : ((a, W.listOf #[] 0) :: U).Perm (runsT (rs ++ [(a, [], 0)])) := by
  show List.Perm _ (List.map _ _)
  rw [List.map_append]
  exact (hU.cons _).trans (List.perm_append_comm (l₁ := [(a, W.listOf #[] 0)]))
theorem perm_led {g h : Heap} {L D' : Addr} {o : Obj} {U R B : List (Addr × Obj)} (hU : U.Perm R) (N : News g L h ((D', o) :: (U ++ B))) (nd : Apart (D' :: (U ++ B).map (·.1))) : News g L h ((D', o) :: (R ++ B)) ∧ Apart (((D', o) :: (R ++ B)).map (·.1)) :=
  have pp : ((D', o) :: (U ++ B)).Perm ((D', o) :: (R ++ B)) := (hU.append_right B).cons _
  ⟨fun p hp => N p (pp.mem_iff.mpr hp), (pp.map (fun x : Addr × Obj => x.1)).nodup_iff.mp nd⟩
noncomputable section
namespace E_seg_4
def P (w : World) (g : Heap) (s : Shared) (p : Program) (loose : List Str) (mean : EoV) (mg mb : SoV) (L' : Addr) (Q : FsP) (E : VsP) (m : SoV) (rest : List Stmt) (sc D D2 : Addr) (ys wv : List Value) (n t ba tu wd hi : Nat) (u1 u2 u3 u4 u5 u6 : Tok) (dd : Hd) (tb : Tb) (c1 c2 c3 c4 c5 c6 c7 c8 c9 c10 c11 : Obj) : Prop := (hi ≤ 6) → (c1.data = .cell (some (.ref sc))) → (c2.data = .cell (some (.int (ba : Int) u3))) → (c3.data = .cell (some (.int (wd : Int) u5))) → (c4.data = .cell (some (.int (hi : Int) u6))) → (c5.data = .cell none) → (c6.data = .cell none) → (c7.data = .cell none) → (c8.data = .cell none) → (c9.data = .cell none) → (c10.data = .cell none) → (c11.data = .cell none) → SegKS w g s p loose mean mg mb L' Q E m rest (lawRun 10 2 lawBody rest) [(Str.ofString "ring", .ref dd.x), (Str.ofString "words", .ref D2), (Str.ofString "turn", .int (tu : Int) u4), (Str.ofString "number", .int (n : Int) u2), (Str.ofString "total", .int (t : Int) u1), (Str.ofString "heaps", .ref D)] (hdT w dd ++ tbT tb ++ (D, lst ys) :: [(L' + 11, c11), (L' + 10, c10), (L' + 9, c9), (L' + 8, c8), (L' + 7, c7), (L' + 6, c6), (L' + 5, c5), (L' + 4, c4), (L' + 3, c3), (L' + 2, c2), (L' + 1, c1)]) (fun K => ∀ (Dl : Addr) (rs : List (Addr × List Value × Nat)) (nl n5 : Nat) (D5 : Addr) (c5' : Obj), c5'.data = .cell (some (.ref D5)) → rs.length = hi → (∀ p ∈ rs, p.2.1 = []) → K [(Str.ofString "runs", .ref Dl), (Str.ofString "ring", .ref dd.x), (Str.ofString "words", .ref D2), (Str.ofString "turn", .int (tu : Int) u4), (Str.ofString "number", .int (n : Int) u2), (Str.ofString "total", .int (t : Int) u1), (Str.ofString "heaps", .ref D)] ((Dl, W.listOf (rs.map fun p => Value.ref p.1).toArray nl) :: (runsT rs ++ ((D5, W.listOf (#[] : Array Value) n5) :: (hdT w dd ++ tbT tb ++ (D, lst ys) :: [(L' + 11, c11), (L' + 10, c10), (L' + 9, c9), (L' + 8, c8), (L' + 7, c7), (L' + 6, c6), (L' + 5, c5'), (L' + 4, c4), (L' + 3, c3), (L' + 2, c2), (L' + 1, c1)])))))
@[irreducible] def ζ := upick (by walk_at "m ne") ((ucat un32 (ucat un8 (ucat un2 un1))) P)
@[irreducible] def w := ζ.1.1.1.1.1.1
@[irreducible] def g := ζ.1.1.1.1.1.2
@[irreducible] def s := ζ.1.1.1.1.2.1
@[irreducible] def p := ζ.1.1.1.1.2.2
@[irreducible] def L' := ζ.1.1.2.1.1.1
@[irreducible] def Q := ζ.1.1.2.1.1.2
@[irreducible] def E := ζ.1.1.2.1.2.1
@[irreducible] def m := ζ.1.1.2.1.2.2
@[irreducible] def rest := ζ.1.1.2.2.1.1
@[irreducible] def ys := ζ.1.2.1.1.1.1
theorem core : P w g s p ζ.1.1.1.2.1.1 ζ.1.1.1.2.1.2 ζ.1.1.1.2.2.1 ζ.1.1.1.2.2.2 L' Q E m rest ζ.1.1.2.2.1.2 ζ.1.1.2.2.2.1 ζ.1.1.2.2.2.2 ys ζ.1.2.1.1.1.2 ζ.1.2.1.1.2.1 ζ.1.2.1.1.2.2 ζ.1.2.1.2.1.1 ζ.1.2.1.2.1.2 ζ.1.2.1.2.2.1 ζ.1.2.1.2.2.2 ζ.1.2.2.1.1.1 ζ.1.2.2.1.1.2 ζ.1.2.2.1.2.1 ζ.1.2.2.1.2.2 ζ.1.2.2.2.1.1 ζ.1.2.2.2.1.2 ζ.1.2.2.2.2.1 ζ.1.2.2.2.2.2 ζ.2.1.1.1.1 ζ.2.1.1.1.2 ζ.2.1.1.2.1 ζ.2.1.1.2.2 ζ.2.1.2.1.1 ζ.2.1.2.1.2 ζ.2.1.2.2.1 ζ.2.1.2.2.2 ζ.2.2.1.1 ζ.2.2.1.2 ζ.2.2.2 := by
  intro hh6 d1 d2 d3 d4 d5 d6 d7 d8 d9 d10 d11 X Tp F N ND K kk k
  revert X; k_fill; intro X
  show wpAny _ _ (execs (_ :: _ :: rest) _) _ _ _
  dsimp only [lawEnv, List.map] at *
  walk_at "m go"
  unfold Halt
  refine comp_range (n := ζ.1.2.1.2.2.2) (J := fun i ys T => (∃ rs U, U.Perm (runsT rs) ∧ rs.length = i ∧ (∀ p ∈ rs, p.2.1 = []) ∧ ys = rs.map (fun p => Value.ref p.1) ∧ T = U ++ _)) (by rfl) ‹_› ‹_› ‹_› ‹_› (rg_small (by lia) (by lia) (by lia) (by lia)) (rg_size (by split <;> lia)) (by lia) ⟨[], [], .nil, rfl, by simp, rfl, rfl⟩ ?_ ?_
  · intro i t_ ys' T I oI C oC D' m₂ h₂ tk₂ E₂ hi' j hC hx F₂ N₂ nd₂
    obtain ⟨rs, U, hU, hrl, hre, rfl, rfl⟩ := j
    dsimp only at F₂ N₂ ⊢
    walk_at "m go"
    rename_i a _ _ _ _
    refine TurnC.mk (rest := ?rs4) ‹_› ‹_› ‹_› ((a, W.listOf #[] 0) :: U ++ _) ?tk ⟨rs ++ [(a, [], 0)], (a, W.listOf #[] 0) :: U, ?hpm4, by simp [hrl], ?hee4, by simp, rfl⟩
    case tk => walk_at "m take"
    case hpm4 =>
      exact runs_snoc hU
    case hee4 =>
      intro p hp
      rcases List.mem_append.mp hp with hp | hp
      · exact hre p hp
      · rw [List.mem_singleton] at hp; rw [hp]
  intro gg ys' T j nd D' h₃ tk₃ F₃ N₃ o1
  obtain ⟨rs, U, hU, hrl, hre, rfl, rfl⟩ := j
  have ND₃ := apart1_of o1 nd
  clear o1 nd
  dsimp only at *
  rename Obj => c5'
  obtain ⟨N₄, ND₄⟩ := perm_led hU N₃ ND₃
  refine' seg_end (kk _ _ (k D' rs _ _ _ c5' ?e hrl hre)) (rs := ?rs3) F₃ N₄ ND₄ ?l ?t
  case e => assumption
  case l => walk_at "m loc"
  case t => walk_at "m take"
end E_seg_4
end
theorem seg_4 : ∀ {w g s p loose mean mg mb L' Q E m rest sc D D2 ys wv n t ba tu wd hi u1 u2 u3 u4 u5 u6 dd tb c1 c2 c3 c4 c5 c6 c7 c8 c9 c10 c11}, E_seg_4.P w g s p loose mean mg mb L' Q E m rest sc D D2 ys wv n t ba tu wd hi u1 u2 u3 u4 u5 u6 dd tb c1 c2 c3 c4 c5 c6 c7 c8 c9 c10 c11 := fun {w g s p loose mean mg mb L' Q E m rest sc D D2 ys wv n t ba tu wd hi u1 u2 u3 u4 u5 u6 dd tb c1 c2 c3 c4 c5 c6 c7 c8 c9 c10 c11} => by with_unfolding_all exact pk (c := E_seg_4.ζ) rfl E_seg_4.core ((((((w, g), (s, p)), ((loose, mean), (mg, mb))), (((L', Q), (E, m)), ((rest, sc), (D, D2)))), ((((ys, wv), (n, t)), ((ba, tu), (wd, hi))), (((u1, u2), (u3, u4)), ((u5, u6), (dd, tb))))), ((((c1, c2), (c3, c4)), ((c5, c6), (c7, c8))), ((c9, c10), c11)))
end
section
noncomputable section
namespace E_seg_b1a
def P (w : World) (g : Heap) (s : Shared) (p : Program) (loose : List Str) (mean : EoV) (mg mb : SoV) (L' : Addr) (Q : FsP) (E : VsP) (m : SoV) (rest : List Stmt) (D Dl : Addr) (n t tu st : Nat) (u0 u1 u2 u4 : Tok) (dd : Hd) (U : Led) (c6 : Obj) (x6 : Option Value) : Prop := (4 ≤ t) → (t ≤ 6) → (dd.vs.length = t) → (c6.data = .cell x6) → SegKS w g s p loose mean mg mb L' Q E m rest (lawRun 0 1 (blockOf 12 lawBody) rest) [(Str.ofString "step", .int (st : Int) u0), (Str.ofString "runs", .ref Dl), (Str.ofString "ring", .ref dd.x), (Str.ofString "turn", .int (tu : Int) u4), (Str.ofString "number", .int (n : Int) u2), (Str.ofString "total", .int (t : Int) u1), (Str.ofString "heaps", .ref D)] (hdT w dd ++ (L' + 6, c6) :: U) (fun K => ∀ (D6 : Addr) (n6 : Nat) (c6' : Obj), c6'.data = .cell (some (.ref D6)) → K [(Str.ofString "step", .int (st : Int) u0), (Str.ofString "runs", .ref Dl), (Str.ofString "ring", .ref dd.x), (Str.ofString "turn", .int (tu : Int) u4), (Str.ofString "number", .int (n : Int) u2), (Str.ofString "total", .int (t : Int) u1), (Str.ofString "heaps", .ref D)] (hdT w dd ++ (L' + 6, c6') :: (D6, W.listOf (#[] : Array Value) n6) :: U))
@[irreducible] def ζ := upick (by walk_at "m ne") ((ucat un16 (ucat un8 (ucat un2 un1))) P)
@[irreducible] def w := ζ.1.1.1.1.1
@[irreducible] def g := ζ.1.1.1.1.2
@[irreducible] def s := ζ.1.1.1.2.1
@[irreducible] def L' := ζ.1.2.1.1.1
@[irreducible] def Q := ζ.1.2.1.1.2
@[irreducible] def E := ζ.1.2.1.2.1
@[irreducible] def m := ζ.1.2.1.2.2
@[irreducible] def rest := ζ.1.2.2.1.1
theorem core : P w g s ζ.1.1.1.2.2 ζ.1.1.2.1.1 ζ.1.1.2.1.2 ζ.1.1.2.2.1 ζ.1.1.2.2.2 L' Q E m rest ζ.1.2.2.1.2 ζ.1.2.2.2.1 ζ.1.2.2.2.2 ζ.2.1.1.1.1 ζ.2.1.1.1.2 ζ.2.1.1.2.1 ζ.2.1.1.2.2 ζ.2.1.2.1.1 ζ.2.1.2.1.2 ζ.2.1.2.2.1 ζ.2.1.2.2.2 ζ.2.2.1.1 ζ.2.2.1.2 ζ.2.2.2 := by
  intro ht4 ht6 hdl d6 X Tp F N ND K kk k
  revert X; k_fill; intro X
  show wpAny _ _ (execs (_ :: rest) _) _ _ _
  dsimp only [lawEnv, List.map] at *
  walk_at "m go"
  rename (Obj.data _ = Data.cell (some (Value.ref _))) => d6'
  refine' seg_end (kk _ _ (k _ _ _ d6')) (rs := ?rs3) ?F ?N ?nd ?l ?t
  case F => assumption
  case N => assumption
  case nd => k_dflt assumption
  case l => walk_at "m loc"
  case t => walk_at "m take"
end E_seg_b1a
end
theorem seg_b1a : ∀ {w g s p loose mean mg mb L' Q E m rest D Dl n t tu st u0 u1 u2 u4 dd U c6 x6}, E_seg_b1a.P w g s p loose mean mg mb L' Q E m rest D Dl n t tu st u0 u1 u2 u4 dd U c6 x6 := fun {w g s p loose mean mg mb L' Q E m rest D Dl n t tu st u0 u1 u2 u4 dd U c6 x6} => by with_unfolding_all exact pk (c := E_seg_b1a.ζ) rfl E_seg_b1a.core (((((w, g), (s, p)), ((loose, mean), (mg, mb))), (((L', Q), (E, m)), ((rest, D), (Dl, n)))), ((((t, tu), (st, u0)), ((u1, u2), (u4, dd))), ((U, c6), x6)))
end
section
noncomputable section
namespace E_seg_b1
def P (w : World) (g : Heap) (s : Shared) (p : Program) (loose : List Str) (mean : EoV) (mg mb : SoV) (L' : Addr) (Q : FsP) (E : VsP) (m : SoV) (rest : List Stmt) (D Dl : Addr) (n t tu st : Nat) (u0 u1 u2 u4 : Tok) (dd : Hd) (U : Led) (c6 : Obj) (D6 : Addr) (n6 : Nat) : Prop := (4 ≤ t) → (t ≤ 6) → (dd.vs.length = t) → (c6.data = .cell (some (.ref D6))) → SegKS w g s p loose mean mg mb L' Q E m rest (lawRun 1 1 (blockOf 12 lawBody) rest) [(Str.ofString "step", .int (st : Int) u0), (Str.ofString "runs", .ref Dl), (Str.ofString "ring", .ref dd.x), (Str.ofString "turn", .int (tu : Int) u4), (Str.ofString "number", .int (n : Int) u2), (Str.ofString "total", .int (t : Int) u1), (Str.ofString "heaps", .ref D)] (hdT w dd ++ (L' + 6, c6) :: (D6, W.listOf (#[] : Array Value) n6) :: U) (fun K => ∀ (dd' : Hd) (n6 : Nat), dd'.x = dd.x → dd'.vs = dd.vs → K [(Str.ofString "step", .int (st : Int) u0), (Str.ofString "runs", .ref Dl), (Str.ofString "ring", .ref dd.x), (Str.ofString "turn", .int (tu : Int) u4), (Str.ofString "number", .int (n : Int) u2), (Str.ofString "total", .int (t : Int) u1), (Str.ofString "heaps", .ref D)] (hdT w dd' ++ (L' + 6, c6) :: (D6, W.listOf dd.vs.reverse.toArray n6) :: U))
@[irreducible] def ζ := upick (by walk_at "m ne") ((ucat un16 (ucat un8 un4)) P)
@[irreducible] def w := ζ.1.1.1.1.1
@[irreducible] def g := ζ.1.1.1.1.2
@[irreducible] def s := ζ.1.1.1.2.1
@[irreducible] def L' := ζ.1.2.1.1.1
@[irreducible] def Q := ζ.1.2.1.1.2
@[irreducible] def E := ζ.1.2.1.2.1
@[irreducible] def m := ζ.1.2.1.2.2
@[irreducible] def rest := ζ.1.2.2.1.1
@[irreducible] def n := ζ.1.2.2.2.2
@[irreducible] def dd := ζ.2.1.2.2.2
@[irreducible] def n6 := ζ.2.2.2.2
theorem core : P w g s ζ.1.1.1.2.2 ζ.1.1.2.1.1 ζ.1.1.2.1.2 ζ.1.1.2.2.1 ζ.1.1.2.2.2 L' Q E m rest ζ.1.2.2.1.2 ζ.1.2.2.2.1 n ζ.2.1.1.1.1 ζ.2.1.1.1.2 ζ.2.1.1.2.1 ζ.2.1.1.2.2 ζ.2.1.2.1.1 ζ.2.1.2.1.2 ζ.2.1.2.2.1 dd ζ.2.2.1.1 ζ.2.2.1.2 ζ.2.2.2.1 n6 := by
  intro ht4 ht6 hdl d6 X Tp F N ND K kk k
  revert X; k_fill; intro X
  show wpAny _ _ (execs (_ :: rest) _) _ _ _
  dsimp only [lawEnv, List.map] at *
  walk_at "m go"
  walk_at "m for"
  walk_at "m go"
  refine' for_rangeT (L := L') (n := ζ.2.1.1.1.1) (J := fun i V T => ∃ (dd' : Hd) (n6 : Nat), dd'.x = dd.x ∧ dd'.vs = dd.vs.drop i ++ dd.vs.take i ∧ V = [(Str.ofString "step", .int (ζ.2.1.1.2.1 : Int) ζ.2.1.1.2.2), (Str.ofString "runs", .ref ζ.1.2.2.2.1), (Str.ofString "ring", .ref dd.x), (Str.ofString "turn", .int (ζ.2.1.1.1.2 : Int) ζ.2.1.2.2.1), (Str.ofString "number", .int (n : Int) ζ.2.1.2.1.2), (Str.ofString "total", .int (ζ.2.1.1.1.1 : Int) ζ.2.1.2.1.1), (Str.ofString "heaps", .ref ζ.1.2.2.1.2)] ∧ T = hdT w dd' ++ (L' + 6, ζ.2.2.1.2) :: (ζ.2.2.2.1, W.listOf (dd.vs.take i).reverse.toArray n6) :: ζ.2.2.1.1) (V₀ := _) (by rfl) ‹_› ?hsm ?hn (by rfl) (by rfl) (by rfl) ‹_› ?lc ‹_› (by k_dflt assumption) ⟨dd, _, rfl, by simp, rfl, rfl⟩ ?tk ?_ ?_
  case hsm => exact rg_small (by lia) (by lia) (by lia) (by lia)
  case hn => exact rg_size (by split <;> lia)
  case lc => walk_at "m loc"
  case tk => walk_at "m take"
  · intro i t_ m V T h₁ tk₁ I oI E' hi j F₁ N₁ nd₁
    obtain ⟨dd', n6, hdx, hdv, rfl, rfl⟩ := j
    have hiv : i < dd.vs.length := by lia
    have hd1 : dd'.vs = dd.vs[i] :: (dd.vs.drop (i + 1) ++ dd.vs.take i) := by rw [hdv, List.drop_eq_getElem_cons hiv]; rfl
    have hd2 : (dd.vs.drop (i + 1) ++ dd.vs.take i).length ≤ 20 := by rw [List.length_append, List.length_drop, List.length_take]; lia
    rw [← hdx] at F₁ ⊢
    dsimp only [hdT, List.cons_append, List.nil_append] at N₁ nd₁
    walk_at "m go"
    refine' call_spec (sp_push { dd' with vs := dd.vs.drop (i + 1) ++ dd.vs.take i, n := dd'.n + 1 } hd2 _) ?F ?X ?Tp ?N ?nd ?tk ?hA ?_
    case F => k_asm
    case X => k_asm
    case Tp => k_asm
    case N => k_asm
    case tk => walk_at "m take"
    case nd => k_dflt assumption
    case hA => exact ale_lv (by rfl) (Nat.le_of_ble_eq_true rfl) (Nat.le_of_ble_eq_true rfl)
    k_whole
    intro v' T' h' tk' hP F' N' hND
    obtain ⟨hv, hT⟩ := hP
    subst hv
    subst hT
    dsimp only [hdT, wsT, List.cons_append, List.nil_append] at N' hND ⊢
    walk_at "m go"
    have hr : dd.vs[i] :: (List.take i dd.vs).reverse = (List.take (i + 1) dd.vs).reverse := by rw [← List.take_append_getElem hiv, List.reverse_append]; rfl
    simp only [hr] at *
    refine' turn_next ‹_› ‹_› (by k_dflt assumption) _ _ ⟨{ dd' with vs := dd.vs.drop (i + 1) ++ dd.vs.take i ++ [dd.vs[i]], n := dd'.n + 1 + 1 }, _, rfl, ?hv5, rfl, rfl⟩ ?l ?tk
    case hv5 => rw [List.append_assoc, List.take_append_getElem]
    case l => walk_at "m loc"
    case tk => walk_at "m take"
  · intro m V T h₁ tk₁ E' j F₁ N₁ nd₁
    obtain ⟨dd', n6, hdx, hdv, rfl, rfl⟩ := j
    have hdv2 : dd'.vs = dd.vs := by rw [hdv, ← hdl]; simp
    have htk : dd.vs.take ζ.2.1.1.1.1 = dd.vs := by rw [← hdl]; simp
    rw [htk] at N₁ nd₁
    dsimp only [hdT, List.cons_append, List.nil_append] at N₁ nd₁
    walk_at "m go"
    try dsimp only
    refine' seg_end (kk _ _ (k dd' _ hdx hdv2)) (rs := ?rs3) ?F ?N ?nd ?l ?t
    case F => assumption
    case N => assumption
    case nd => k_dflt assumption
    case l => walk_at "m loc"
    case t => walk_at "m take"
end E_seg_b1
end
theorem seg_b1 : ∀ {w g s p loose mean mg mb L' Q E m rest D Dl n t tu st u0 u1 u2 u4 dd U c6 D6 n6}, E_seg_b1.P w g s p loose mean mg mb L' Q E m rest D Dl n t tu st u0 u1 u2 u4 dd U c6 D6 n6 := fun {w g s p loose mean mg mb L' Q E m rest D Dl n t tu st u0 u1 u2 u4 dd U c6 D6 n6} => by with_unfolding_all exact pk (c := E_seg_b1.ζ) rfl E_seg_b1.core (((((w, g), (s, p)), ((loose, mean), (mg, mb))), (((L', Q), (E, m)), ((rest, D), (Dl, n)))), ((((t, tu), (st, u0)), ((u1, u2), (u4, dd))), ((U, c6), (D6, n6))))
end
section
noncomputable section
namespace E_seg_b3
def P (w : World) (g : Heap) (s : Shared) (p : Program) (loose : List Str) (mean : EoV) (mg mb : SoV) (L' : Addr) (Q : FsP) (E : VsP) (m : SoV) (rest : List Stmt) (D Dl D6 rx : Addr) (n t tu st wd hi n6 : Nat) (lv : List Value) (bl : List Bool) (u0 u1 u2 u4 u5 u6 : Tok) (U : Led) (c6 c4 c3 : Obj) : Prop := (t ≤ 6) → (wd ≤ 6) → (hi ≤ 6) → (bl.length = t) → (TxsAre lv (bl.map bitW)) → (lv.length ≤ 6) → (c6.data = .cell (some (.ref D6))) → (c4.data = .cell (some (.int (hi : Int) u6))) → (c3.data = .cell (some (.int (wd : Int) u5))) → SegKS w g s p loose mean mg mb L' Q E m rest (lawRun 2 1 (blockOf 12 lawBody) rest) [(Str.ofString "step", .int (st : Int) u0), (Str.ofString "runs", .ref Dl), (Str.ofString "ring", .ref rx), (Str.ofString "turn", .int (tu : Int) u4), (Str.ofString "number", .int (n : Int) u2), (Str.ofString "total", .int (t : Int) u1), (Str.ofString "heaps", .ref D)] ((L' + 6, c6) :: (L' + 4, c4) :: (L' + 3, c3) :: (D6, W.listOf lv.toArray n6) :: U) (fun K => ∀ (Dd : Addr) (dv : List Value), IntsAre dv (intsN ((List.range hi).map (dueN bl wd hi))) → K [(Str.ofString "due", .ref Dd), (Str.ofString "step", .int (st : Int) u0), (Str.ofString "runs", .ref Dl), (Str.ofString "ring", .ref rx), (Str.ofString "turn", .int (tu : Int) u4), (Str.ofString "number", .int (n : Int) u2), (Str.ofString "total", .int (t : Int) u1), (Str.ofString "heaps", .ref D)] ((Dd, lst dv) :: (L' + 6, c6) :: (L' + 4, c4) :: (L' + 3, c3) :: (D6, W.listOf lv.toArray n6) :: U))
@[irreducible] def ζ := upick (by walk_at "m ne") ((ucat un32 un4) P)
@[irreducible] def w := ζ.1.1.1.1.1.1
@[irreducible] def g := ζ.1.1.1.1.1.2
@[irreducible] def s := ζ.1.1.1.1.2.1
@[irreducible] def L' := ζ.1.1.2.1.1.1
@[irreducible] def Q := ζ.1.1.2.1.1.2
@[irreducible] def E := ζ.1.1.2.1.2.1
@[irreducible] def m := ζ.1.1.2.1.2.2
@[irreducible] def rest := ζ.1.1.2.2.1.1
@[irreducible] def wd := ζ.1.2.1.2.1.2
@[irreducible] def hi := ζ.1.2.1.2.2.1
@[irreducible] def bl := ζ.1.2.2.1.1.2
theorem core : P w g s ζ.1.1.1.1.2.2 ζ.1.1.1.2.1.1 ζ.1.1.1.2.1.2 ζ.1.1.1.2.2.1 ζ.1.1.1.2.2.2 L' Q E m rest ζ.1.1.2.2.1.2 ζ.1.1.2.2.2.1 ζ.1.1.2.2.2.2 ζ.1.2.1.1.1.1 ζ.1.2.1.1.1.2 ζ.1.2.1.1.2.1 ζ.1.2.1.1.2.2 ζ.1.2.1.2.1.1 wd hi ζ.1.2.1.2.2.2 ζ.1.2.2.1.1.1 bl ζ.1.2.2.1.2.1 ζ.1.2.2.1.2.2 ζ.1.2.2.2.1.1 ζ.1.2.2.2.1.2 ζ.1.2.2.2.2.1 ζ.1.2.2.2.2.2 ζ.2.1.1 ζ.2.1.2 ζ.2.2.1 ζ.2.2.2 := by
  intro ht6 hw hh hbl hlv hll d6 d4 d3 X Tp F N ND K kk k
  revert X; k_fill; intro X
  show wpAny _ _ (execs (_ :: rest) _) _ _ _
  dsimp only [lawEnv, List.map] at *
  walk_at "m go"
  refine range_srcC (n := hi) (J := fun i ys T => IntsAre ys ((List.range i).map fun i => (dueN bl wd hi i : Int)) ∧ T = _) (by rfl) ‹_› ‹_› ‹_› (by k_dflt assumption) (rg_small (by lia) (by lia) (by lia) (by lia)) (rg_size (by split <;> lia)) (by lia) ⟨.nil, rfl⟩ ?_ ?_
  · intro i t_ ys' T I oI C oC D' oK h₂ tk₂ E₂ hi' j hoK F₂ N₂ nd₂
    obtain ⟨hy, rfl⟩ := j
    dsimp only at F₂ N₂ ⊢
    walk_at "m go"
    unfold Halt
    refine compT_range (n := wd) (J := fun k ys T => ys.length = (duePart bl hi i k).length ∧ T = _) (by rfl) ‹_› ‹_› (by k_dflt assumption) (by k_dflt assumption) (rg_small (by lia) (by lia) (by lia) (by lia)) (rg_size (by split <;> lia)) (by lia) ⟨rfl, rfl⟩ ?_ ?_
    · intro k_ t2_ ys2 T I₂ oI₂ C₂ oC₂ D₂ m₂ h₃ tk₃ E₃ hk j hC hx F₃ N₃ nd₃
      obtain ⟨hy2, rfl⟩ := j
      dsimp only at F₃ N₃ ⊢
      walk_at "m go"
      rename (_ = (slicePick ζ.1.2.2.1.1.1.toArray _ _ _).toList) => hus
      have hsl := bits_us (bl := bl) (a := i) (b := hi + k_) hus hlv (by simp) (by lia)
      refine' count_list_strs (listAt ?N ?q) hsl ?_
      case N => k_asm
      case q => k_mem
      k_whole; rw [count_bits]
      walk_at "m go"
      · refine TurnC.mk (rest := ?rs11) ‹_› ‹_› (by k_dflt assumption) _ ?tk ⟨?e, rfl⟩
        case tk => walk_at "m take"
        case e => rw [List.length_append, duePart_yes (by lia), hy2]; rfl
      · refine TurnC.mk (rest := ?rs12) ‹_› ‹_› (by k_dflt assumption) _ ?tk ⟨?e, rfl⟩
        case tk => walk_at "m take"
        case e => rw [duePart_no (by lia), hy2]
    intro gg ys2 T j nd D₃ h₃ tk₃ F₃ N₃ o1
    obtain ⟨hy2, rfl⟩ := j
    have ND₃ := apart1_of o1 nd
    clear o1 nd
    dsimp only at *
    rw [duePart_all] at hy2
    have hy3 : ys2.length ≤ 6 := by rw [hy2]; exact Nat.le_trans (dueN_le _ _ _ _) hw
    walk_at "m go"
    refine TurnC.mk (rest := ?rs13) ‹_› ‹_› (by k_dflt assumption) _ ?tk ⟨_, rfl, ?e, rfl⟩
    case tk => walk_at "m take"
    case e => rw [hy2]; exact ints_snoc hy
  intro gg ys' T j nd D' h₃ tk₃ F₃ N₃ o1
  obtain ⟨hy, rfl⟩ := j
  have ND₃ := apart1_of o1 nd
  clear o1 nd
  dsimp only at *
  refine' seg_end (kk _ _ (k D' ys' ?e)) (rs := ?rs3) F₃ N₃ ND₃ ?l ?t
  case e => rw [show intsN ((List.range hi).map (dueN bl wd hi)) = (List.range hi).map fun i => (dueN bl wd hi i : Int) by simp [intsN]]; exact hy
  case l => walk_at "m loc"
  case t => walk_at "m take"
end E_seg_b3
end
theorem seg_b3 : ∀ {w g s p loose mean mg mb L' Q E m rest D Dl D6 rx n t tu st wd hi n6 lv bl u0 u1 u2 u4 u5 u6 U c6 c4 c3}, E_seg_b3.P w g s p loose mean mg mb L' Q E m rest D Dl D6 rx n t tu st wd hi n6 lv bl u0 u1 u2 u4 u5 u6 U c6 c4 c3 := fun {w g s p loose mean mg mb L' Q E m rest D Dl D6 rx n t tu st wd hi n6 lv bl u0 u1 u2 u4 u5 u6 U c6 c4 c3} => by with_unfolding_all exact pk (c := E_seg_b3.ζ) rfl E_seg_b3.core ((((((w, g), (s, p)), ((loose, mean), (mg, mb))), (((L', Q), (E, m)), ((rest, D), (Dl, D6)))), ((((rx, n), (t, tu)), ((st, wd), (hi, n6))), (((lv, bl), (u0, u1)), ((u2, u4), (u5, u6))))), ((U, c6), (c4, c3)))
end
section
noncomputable section
namespace E_seg_b4a
def P (w : World) (g : Heap) (s : Shared) (p : Program) (loose : List Str) (mean : EoV) (mg mb : SoV) (L' : Addr) (Q : FsP) (E : VsP) (m : SoV) (rest : List Stmt) (D5 Dd : Addr) (st n5 nd : Nat) (rv dv : List Value) (ds : List Nat) (u0 : Tok) (U : Led) (c5 : Obj) : Prop := (IntsAre dv (intsN ds)) → (ds.length ≤ 6) → (∀ d ∈ ds, d ≤ 6) → (st = 0 ∨ TxsAre rv (ds.map dots)) → (c5.data = .cell (some (.ref D5))) → SegFS w g s p loose mean mg mb L' Q E m rest (lawRun 3 1 (blockOf 12 lawBody) rest) [(Str.ofString "due", .ref Dd), (Str.ofString "step", .int (st : Int) u0)] ((Dd, W.listOf dv.toArray nd) :: (L' + 5, c5) :: (D5, W.listOf rv.toArray n5) :: U) [] (fun K => ∀ (D5' : Addr) (rv' : List Value) (n5' : Nat) (c5' : Obj), c5'.data = .cell (some (.ref D5')) → TxsAre rv' (ds.map dots) → K [(Str.ofString "due", .ref Dd), (Str.ofString "step", .int (st : Int) u0)] ((Dd, W.listOf dv.toArray nd) :: (L' + 5, c5') :: (D5', W.listOf rv'.toArray n5') :: U))
@[irreducible] def ζ := upick (by walk_at "m ne") ((ucat un16 un8) P)
@[irreducible] def w := ζ.1.1.1.1.1
@[irreducible] def g := ζ.1.1.1.1.2
@[irreducible] def s := ζ.1.1.1.2.1
@[irreducible] def L' := ζ.1.2.1.1.1
@[irreducible] def Q := ζ.1.2.1.1.2
@[irreducible] def E := ζ.1.2.1.2.1
@[irreducible] def m := ζ.1.2.1.2.2
@[irreducible] def rest := ζ.1.2.2.1.1
@[irreducible] def nd := ζ.2.1.1.2
theorem core : P w g s ζ.1.1.1.2.2 ζ.1.1.2.1.1 ζ.1.1.2.1.2 ζ.1.1.2.2.1 ζ.1.1.2.2.2 L' Q E m rest ζ.1.2.2.1.2 ζ.1.2.2.2.1 ζ.1.2.2.2.2 ζ.2.1.1.1 nd ζ.2.1.2.1 ζ.2.1.2.2 ζ.2.2.1.1 ζ.2.2.1.2 ζ.2.2.2.1 ζ.2.2.2.2 := by
  intro hdv hdl hdb hrv d5 X Tp F N ND K kk k
  revert X; k_fill; intro X
  show wpAny _ _ (execs (_ :: rest) _) _ _ _
  dsimp only [lawEnv, List.map] at *
  walk_at "m go"
  · unfold Halt
    refine comp_list (vs := ζ.2.1.2.2) (c := nd) (J := fun i ys T => TxsAre ys ((ζ.2.2.1.1.take i).map dots) ∧ T = _) (by rfl) ‹_› ‹_› (by k_dflt assumption) (by rw [hdv.length]; simp [intsN]; lia) ⟨.nil, rfl⟩ (fun i ys T j => by rw [j.2]; k_mem) ?_ ?_
    · intro i v ys T I oI C oC D m₂ h₂ tk₂ E₂ hi hv j hC hx F₂ N₂ nd₂
      obtain ⟨hy, rfl⟩ := j
      obtain ⟨d, t', hk, rfl, hd6⟩ := ints_nat hdv hdb i v hv
      walk_at "m go"
      refine TurnC.mk (rest := ?rs11) ‹_› ‹_› (by k_dflt assumption) _ ?tk ⟨txs_next hy hk ?e, rfl⟩
      case tk => walk_at "m take"
      case e => simp only [of_dot, tx_mul, flat1]; rfl
    intro gg ys T j nd D h₃ tk₃ F₃ N₃ o1
    obtain ⟨hy, rfl⟩ := j
    have ND₃ := apart1_of o1 nd
    clear o1 nd
    replace hy := txs_end (f := dots) (ns := ζ.2.2.1.1) (by rw [hdv.length]; simp [intsN]) hy
    dsimp only at *
    walk_at "m go"
    dsimp only
    refine' segF_end (kk _ _ (k _ _ _ _ ‹_› hy)) (rs := ?rs3) ‹_› ‹_› (by k_dflt assumption) ?l ?fr ?t
    case l => walk_at "m loc"
    case fr => walk_at "m fr"
    case t => walk_at "m take"
  · dsimp only
    refine' segF_end (kk _ _ (k ζ.1.2.2.1.2 ζ.2.1.2.1 ζ.2.1.1.1 ζ.2.2.2.2 d5 (hrv.resolve_left (by lia)))) (rs := ?rs2) ‹_› ‹_› (by k_dflt assumption) ?l ?fr ?t
    case l => walk_at "m loc"
    case fr => walk_at "m fr"
    case t => walk_at "m take"
end E_seg_b4a
end
theorem seg_b4a : ∀ {w g s p loose mean mg mb L' Q E m rest D5 Dd st n5 nd rv dv ds u0 U c5}, E_seg_b4a.P w g s p loose mean mg mb L' Q E m rest D5 Dd st n5 nd rv dv ds u0 U c5 := fun {w g s p loose mean mg mb L' Q E m rest D5 Dd st n5 nd rv dv ds u0 U c5} => by with_unfolding_all exact pk (c := E_seg_b4a.ζ) rfl E_seg_b4a.core (((((w, g), (s, p)), ((loose, mean), (mg, mb))), (((L', Q), (E, m)), ((rest, D5), (Dd, st)))), (((n5, nd), (rv, dv)), ((ds, u0), (U, c5))))
end
section
noncomputable section
namespace E_seg_b4b
def P (w : World) (g : Heap) (s : Shared) (p : Program) (loose : List Str) (mean : EoV) (mg mb : SoV) (L' : Addr) (Q : FsP) (E : VsP) (m : SoV) (rest : List Stmt) (D5 Dd : Addr) (st n5 nd : Nat) (rv dv : List Value) (ds : List Nat) (u0 : Tok) (U : Led) (c5 : Obj) : Prop := (IntsAre dv (intsN ds)) → (ds.length ≤ 6) → (∀ d ∈ ds, d ≤ 6) → (TxsAre rv (ds.map dots)) → (c5.data = .cell (some (.ref D5))) → SegFS w g s p loose mean mg mb L' Q E m rest (lawRun 4 1 (blockOf 12 lawBody) rest) [(Str.ofString "due", .ref Dd), (Str.ofString "step", .int (st : Int) u0)] ((Dd, W.listOf dv.toArray nd) :: (L' + 5, c5) :: (D5, W.listOf rv.toArray n5) :: U) [] (fun K => K [(Str.ofString "due", .ref Dd), (Str.ofString "step", .int (st : Int) u0)] ((L' + 5, c5) :: (D5, W.listOf rv.toArray n5) :: U))
@[irreducible] def ζ := upick (by walk_at "m ne") ((ucat un16 un8) P)
@[irreducible] def w := ζ.1.1.1.1.1
@[irreducible] def g := ζ.1.1.1.1.2
@[irreducible] def s := ζ.1.1.1.2.1
@[irreducible] def L' := ζ.1.2.1.1.1
@[irreducible] def Q := ζ.1.2.1.1.2
@[irreducible] def E := ζ.1.2.1.2.1
@[irreducible] def m := ζ.1.2.1.2.2
@[irreducible] def rest := ζ.1.2.2.1.1
@[irreducible] def nd := ζ.2.1.1.2
@[irreducible] def ds := ζ.2.2.1.1
theorem core : P w g s ζ.1.1.1.2.2 ζ.1.1.2.1.1 ζ.1.1.2.1.2 ζ.1.1.2.2.1 ζ.1.1.2.2.2 L' Q E m rest ζ.1.2.2.1.2 ζ.1.2.2.2.1 ζ.1.2.2.2.2 ζ.2.1.1.1 nd ζ.2.1.2.1 ζ.2.1.2.2 ds ζ.2.2.1.2 ζ.2.2.2.1 ζ.2.2.2.2 := by
  intro hdv hdl hdb hrv d5 X Tp F N ND K kk k
  revert X; k_fill; intro X
  show wpAny _ _ (execs (_ :: rest) _) _ _ _
  dsimp only [lawEnv, List.map] at *
  walk_at "m go"
  · unfold Halt
    refine comp_list (vs := ζ.2.1.2.2) (c := nd) (J := fun i ys T => TxsAre ys ((ds.take i).map dots) ∧ T = _) (by rfl) ‹_› ‹_› (by k_dflt assumption) (by rw [hdv.length]; simp [intsN]; lia) ⟨.nil, rfl⟩ (fun i ys T j => by rw [j.2]; k_mem) ?_ ?_
    · intro i v ys T I oI C oC D m₂ h₂ tk₂ E₂ hi hv j hC hx F₂ N₂ nd₂
      obtain ⟨hy, rfl⟩ := j
      obtain ⟨d, t', hk, rfl, hd6⟩ := ints_nat hdv hdb i v hv
      walk_at "m go"
      refine TurnC.mk (rest := ?rs11) ‹_› ‹_› (by k_dflt assumption) _ ?tk ⟨txs_next hy hk ?e, rfl⟩
      case tk => walk_at "m take"
      case e => simp only [of_dot, tx_mul, flat1]; rfl
    intro gg ys T j nd D h₃ tk₃ F₃ N₃ o1
    obtain ⟨hy, rfl⟩ := j
    have ND₃ := apart1_of o1 nd
    clear o1 nd
    replace hy := txs_end (f := dots) (ns := ds) (by rw [hdv.length]; simp [intsN]) hy
    dsimp only at *
    have hne := eqv_self (ds.map dots)
    have h128 := dots_lt ds
    walk_at "m go"
    any_goals (exfalso; (rename (PyData.eqv _ _ = false) => he); rw [hne] at he; cases he; done)
    (try dsimp only)
    refine' segF_end (kk _ _ (k)) (rs := ?rs3) ‹_› ‹_› (by k_dflt assumption) ?l ?fr ?t
    case l => walk_at "m loc"
    case fr => walk_at "m fr"
    case t => walk_at "m take"
end E_seg_b4b
end
theorem seg_b4b : ∀ {w g s p loose mean mg mb L' Q E m rest D5 Dd st n5 nd rv dv ds u0 U c5}, E_seg_b4b.P w g s p loose mean mg mb L' Q E m rest D5 Dd st n5 nd rv dv ds u0 U c5 := fun {w g s p loose mean mg mb L' Q E m rest D5 Dd st n5 nd rv dv ds u0 U c5} => by with_unfolding_all exact pk (c := E_seg_b4b.ζ) rfl E_seg_b4b.core (((((w, g), (s, p)), ((loose, mean), (mg, mb))), (((L', Q), (E, m)), ((rest, D5), (Dd, st)))), (((n5, nd), (rv, dv)), ((ds, u0), (U, c5))))
end
section
noncomputable section
namespace E_seg_b5
def P (w : World) (g : Heap) (s : Shared) (p : Program) (loose : List Str) (mean : EoV) (mg mb : SoV) (L' : Addr) (Q : FsP) (E : VsP) (m : SoV) (rest : List Stmt) (st tu wd : Nat) (u0 u4 u5 : Tok) (U : Led) (c3 : Obj) : Prop := (wd ≤ 6) → (st ≤ 6) → (tu ≤ 11) → (c3.data = .cell (some (.int (wd : Int) u5))) → SegFS w g s p loose mean mg mb L' Q E m rest (lawRun 5 2 (blockOf 12 lawBody) rest) [(Str.ofString "step", .int (st : Int) u0), (Str.ofString "turn", .int (tu : Int) u4)] ((L' + 3, c3) :: U) [Str.ofString "kind", Str.ofString "ahead"] (fun K => ∀ (xa : Addr) (da : Ws) (o : Nat) (uk : Tok), o ≤ 1 → WsOk (lead (wd + 1) o ((st / 2 + tu) % 2)) da → K [(Str.ofString "ahead", .ref xa), (Str.ofString "kind", .int (((st / 2 + tu) % 2 : Nat) : Int) uk), (Str.ofString "step", .int (st : Int) u0), (Str.ofString "turn", .int (tu : Int) u4)] (wsT w xa da ++ (L' + 3, c3) :: U))
@[irreducible] def ζ := upick (by walk_at "m ne") ((ucat un16 (ucat un4 un1)) P)
@[irreducible] def w := ζ.1.1.1.1.1
@[irreducible] def g := ζ.1.1.1.1.2
@[irreducible] def s := ζ.1.1.1.2.1
@[irreducible] def L' := ζ.1.2.1.1.1
@[irreducible] def Q := ζ.1.2.1.1.2
@[irreducible] def E := ζ.1.2.1.2.1
@[irreducible] def m := ζ.1.2.1.2.2
@[irreducible] def rest := ζ.1.2.2.1.1
theorem core : P w g s ζ.1.1.1.2.2 ζ.1.1.2.1.1 ζ.1.1.2.1.2 ζ.1.1.2.2.1 ζ.1.1.2.2.2 L' Q E m rest ζ.1.2.2.1.2 ζ.1.2.2.2.1 ζ.1.2.2.2.2 ζ.2.1.1.1 ζ.2.1.1.2 ζ.2.1.2.1 ζ.2.1.2.2 ζ.2.2 := by
  intro hw hst htu d3 X Tp F N ND K kk k
  revert X; k_fill; intro X
  show wpAny _ _ (execs (_ :: _ :: rest) _) _ _ _
  dsimp only [lawEnv, List.map] at *
  walk_at "m go"
  try dsimp only
  rename Ws => da
  rename (WsOk _ _) => hda
  rw [kd_nat, show ((ζ.1.2.2.2.2 : Int) + 1).toNat = ζ.1.2.2.2.2 + 1 by lia] at hda
  simp only [kd_eq] at *
  refine' segF_end (kk _ _ (k _ da _ _ (fm2n _) hda)) (rs := ?rs3) ‹_› ‹_› (by k_dflt assumption) ?l ?fr ?t
  case l => walk_at "m loc"
  case fr => walk_at "m fr"
  case t => walk_at "m take"
end E_seg_b5
end
theorem seg_b5 : ∀ {w g s p loose mean mg mb L' Q E m rest st tu wd u0 u4 u5 U c3}, E_seg_b5.P w g s p loose mean mg mb L' Q E m rest st tu wd u0 u4 u5 U c3 := fun {w g s p loose mean mg mb L' Q E m rest st tu wd u0 u4 u5 U c3} => by with_unfolding_all exact pk (c := E_seg_b5.ζ) rfl E_seg_b5.core (((((w, g), (s, p)), ((loose, mean), (mg, mb))), (((L', Q), (E, m)), ((rest, st), (tu, wd)))), (((u0, u4), (u5, U)), c3))
end
section
noncomputable section
namespace E_seg_b7
def P (w : World) (g : Heap) (s : Shared) (p : Program) (loose : List Str) (mean : EoV) (mg mb : SoV) (L' : Addr) (Q : FsP) (E : VsP) (m : SoV) (rest : List Stmt) (U : Led) (c7 : Obj) (x7 : Option Value) : Prop := (c7.data = .cell x7) → SegFS w g s p loose mean mg mb L' Q E m rest (lawRun 7 3 (blockOf 12 lawBody) rest) [] ((L' + 7, c7) :: U) [Str.ofString "text", Str.ofString "sent"] (fun K => ∀ (ta ts : Tok) (D7 : Addr) (n7 : Nat) (c7' : Obj), c7'.data = .cell (some (.ref D7)) → K [(Str.ofString "sent", .str (Str.ofString "") ts), (Str.ofString "text", .str (Str.ofString "") ta)] ((L' + 7, c7') :: (D7, W.listOf (#[] : Array Value) n7) :: U))
@[irreducible] def ζ := upick (by walk_at "m ne") (un16 P)
@[irreducible] def w := ζ.1.1.1.1
@[irreducible] def g := ζ.1.1.1.2
@[irreducible] def s := ζ.1.1.2.1
@[irreducible] def L' := ζ.2.1.1.1
@[irreducible] def Q := ζ.2.1.1.2
@[irreducible] def E := ζ.2.1.2.1
@[irreducible] def m := ζ.2.1.2.2
@[irreducible] def rest := ζ.2.2.1.1
theorem core : P w g s ζ.1.1.2.2 ζ.1.2.1.1 ζ.1.2.1.2 ζ.1.2.2.1 ζ.1.2.2.2 L' Q E m rest ζ.2.2.1.2 ζ.2.2.2.1 ζ.2.2.2.2 := by
  intro d7 X Tp F N ND K kk k
  revert X; k_fill; intro X
  show wpAny _ _ (execs (_ :: _ :: _ :: rest) _) _ _ _
  dsimp only [lawEnv, List.map] at *
  walk_at "m go"
  try dsimp only
  refine' segF_end (kk _ _ (k _ _ _ _ _ ‹_›)) (rs := ?rs3) ‹_› ‹_› (by k_dflt assumption) ?l ?fr ?t
  case l => walk_at "m loc"
  case fr => walk_at "m fr"
  case t => walk_at "m take"
end E_seg_b7
end
theorem seg_b7 : ∀ {w g s p loose mean mg mb L' Q E m rest U c7 x7}, E_seg_b7.P w g s p loose mean mg mb L' Q E m rest U c7 x7 := fun {w g s p loose mean mg mb L' Q E m rest U c7 x7} => by with_unfolding_all exact pk (c := E_seg_b7.ζ) rfl E_seg_b7.core ((((w, g), (s, p)), ((loose, mean), (mg, mb))), (((L', Q), (E, m)), ((rest, U), (c7, x7))))
end
section
noncomputable section
namespace E_seg_x1
def P (w : World) (g : Heap) (s : Shared) (p : Program) (loose : List Str) (mean : EoV) (mg mb : SoV) (L' : Addr) (Q : FsP) (E : VsP) (m : SoV) (rest : List Stmt) (D5 : Addr) (rv : List Value) (z : Int) (i d st tu kd n5 : Nat) (ti tr u0 u4 uk : Tok) (U : Led) (c5 : Obj) : Prop := (z = (i : Int)) → (i ≤ 6) → (d ≤ 6) → (kd ≤ 1) → (rv[i]? = some (.str (Tx (dots d)) tr)) → (st ≤ 6) → (tu ≤ 11) → (c5.data = .cell (some (.ref D5))) → SegFS w g s p loose mean mg mb L' Q E m rest (lawRun 0 1 (blockOf 10 (blockOf 12 lawBody)) rest) [(Str.ofString "i", .int z ti), (Str.ofString "kind", .int (kd : Int) uk), (Str.ofString "step", .int (st : Int) u0), (Str.ofString "turn", .int (tu : Int) u4)] ((L' + 5, c5) :: (D5, W.listOf rv.toArray n5) :: U) [Str.ofString "here"] (fun K => ∀ (xh : Addr) (dh : Ws) (o : Nat), o ≤ 1 → WsOk (lead (d + 1) o kd) dh → K [(Str.ofString "here", .ref xh), (Str.ofString "i", .int z ti), (Str.ofString "kind", .int (kd : Int) uk), (Str.ofString "step", .int (st : Int) u0), (Str.ofString "turn", .int (tu : Int) u4)] (wsT w xh dh ++ (L' + 5, c5) :: (D5, W.listOf rv.toArray n5) :: U))
@[irreducible] def ζ := upick (by walk_at "m ne") ((ucat un16 (ucat un8 (ucat un4 un1))) P)
@[irreducible] def w := ζ.1.1.1.1.1
@[irreducible] def g := ζ.1.1.1.1.2
@[irreducible] def s := ζ.1.1.1.2.1
@[irreducible] def L' := ζ.1.2.1.1.1
@[irreducible] def Q := ζ.1.2.1.1.2
@[irreducible] def E := ζ.1.2.1.2.1
@[irreducible] def m := ζ.1.2.1.2.2
@[irreducible] def rest := ζ.1.2.2.1.1
@[irreducible] def d := ζ.2.1.1.1.2
theorem core : P w g s ζ.1.1.1.2.2 ζ.1.1.2.1.1 ζ.1.1.2.1.2 ζ.1.1.2.2.1 ζ.1.1.2.2.2 L' Q E m rest ζ.1.2.2.1.2 ζ.1.2.2.2.1 ζ.1.2.2.2.2 ζ.2.1.1.1.1 d ζ.2.1.1.2.1 ζ.2.1.1.2.2 ζ.2.1.2.1.1 ζ.2.1.2.1.2 ζ.2.1.2.2.1 ζ.2.1.2.2.2 ζ.2.2.1.1.1 ζ.2.2.1.1.2 ζ.2.2.1.2.1 ζ.2.2.1.2.2 ζ.2.2.2 := by
  intro hz hi6 hd6 hkd hrow hst htu d5 X Tp F N ND K kk k
  revert X; k_fill; intro X
  show wpAny _ _ (execs (_ :: rest) _) _ _ _
  dsimp only [lawEnv, List.map] at *
  have hL : (Tx (dots d)).length = d + 1 := by rw [tx_len, dots_len]
  walk_at "m go"
  try dsimp only
  rename Ws => dh
  rename (WsOk _ _) => hdh
  rw [hL, show (((d + 1 : Nat) : Int)).toNat = d + 1 from Int.toNat_natCast _, Int.toNat_natCast] at hdh
  refine' segF_end (kk _ _ (k _ dh _ (fm2n _) hdh)) (rs := ?rs3) ‹_› ‹_› (by k_dflt assumption) ?l ?fr ?t
  case l => walk_at "m loc"
  case fr => walk_at "m fr"
  case t => walk_at "m take"
end E_seg_x1
end
theorem seg_x1 : ∀ {w g s p loose mean mg mb L' Q E m rest D5 rv z i d st tu kd n5 ti tr u0 u4 uk U c5}, E_seg_x1.P w g s p loose mean mg mb L' Q E m rest D5 rv z i d st tu kd n5 ti tr u0 u4 uk U c5 := fun {w g s p loose mean mg mb L' Q E m rest D5 rv z i d st tu kd n5 ti tr u0 u4 uk U c5} => by with_unfolding_all exact pk (c := E_seg_x1.ζ) rfl E_seg_x1.core (((((w, g), (s, p)), ((loose, mean), (mg, mb))), (((L', Q), (E, m)), ((rest, D5), (rv, z)))), ((((i, d), (st, tu)), ((kd, n5), (ti, tr))), (((u0, u4), (uk, U)), c5)))
end
section
noncomputable section
namespace E_seg_x2
def P (w : World) (g : Heap) (s : Shared) (p : Program) (loose : List Str) (mean : EoV) (mg mb : SoV) (L' : Addr) (Q : FsP) (E : VsP) (m : SoV) (rest : List Stmt) (xh xa : Addr) (dh da : Ws) (d e o o' kd : Nat) (U : Led) : Prop := (WsOk (lead (d + 1) o kd) dh) → (WsOk (lead (e + 1) o' kd) da) → (d ≤ 6) → (e ≤ 6) → (o ≤ 1) → (o' ≤ 1) → (kd ≤ 1) → SegFS w g s p loose mean mg mb L' Q E m rest (lawRun 1 1 (blockOf 10 (blockOf 12 lawBody)) rest) [(Str.ofString "here", .ref xh), (Str.ofString "ahead", .ref xa)] (wsT w xh dh ++ wsT w xa da ++ U) [Str.ofString "bare"] (fun K => K [(Str.ofString "bare", .bool (decide (d < e))), (Str.ofString "here", .ref xh), (Str.ofString "ahead", .ref xa)] (wsT w xh dh ++ wsT w xa da ++ U))
@[irreducible] def ζ := upick (by walk_at "m ne") ((ucat un16 (ucat un4 (ucat un2 un1))) P)
@[irreducible] def w := ζ.1.1.1.1.1
@[irreducible] def g := ζ.1.1.1.1.2
@[irreducible] def s := ζ.1.1.1.2.1
@[irreducible] def L' := ζ.1.2.1.1.1
@[irreducible] def Q := ζ.1.2.1.1.2
@[irreducible] def E := ζ.1.2.1.2.1
@[irreducible] def m := ζ.1.2.1.2.2
@[irreducible] def rest := ζ.1.2.2.1.1
theorem core : P w g s ζ.1.1.1.2.2 ζ.1.1.2.1.1 ζ.1.1.2.1.2 ζ.1.1.2.2.1 ζ.1.1.2.2.2 L' Q E m rest ζ.1.2.2.1.2 ζ.1.2.2.2.1 ζ.1.2.2.2.2 ζ.2.1.1.1 ζ.2.1.1.2 ζ.2.1.2.1 ζ.2.1.2.2 ζ.2.2.1.1 ζ.2.2.1.2 ζ.2.2.2 := by
  intro hdh hda hd6 he6 ho ho' hkd X Tp F N ND K kk k
  revert X; k_fill; intro X
  show wpAny _ _ (execs (_ :: rest) _) _ _ _
  dsimp only [lawEnv, List.map] at *
  walk_at "m go"
  try dsimp only
  refine' segF_end (kk _ _ (k)) (rs := ?rs3) ‹_› ‹_› (by k_dflt assumption) ?l ?fr ?t
  case l => walk_at "m loc"
  case fr => walk_at "m fr"
  case t => walk_at "m take"
end E_seg_x2
end
theorem seg_x2 : ∀ {w g s p loose mean mg mb L' Q E m rest xh xa dh da d e o o' kd U}, E_seg_x2.P w g s p loose mean mg mb L' Q E m rest xh xa dh da d e o o' kd U := fun {w g s p loose mean mg mb L' Q E m rest xh xa dh da d e o o' kd U} => by with_unfolding_all exact pk (c := E_seg_x2.ζ) rfl E_seg_x2.core (((((w, g), (s, p)), ((loose, mean), (mg, mb))), (((L', Q), (E, m)), ((rest, xh), (xa, dh)))), (((da, d), (e, o)), ((o', kd), U)))
end
section
noncomputable section
namespace E_seg_x3
def P (w : World) (g : Heap) (s : Shared) (p : Program) (loose : List Str) (mean : EoV) (mg mb : SoV) (L' : Addr) (Q : FsP) (E : VsP) (m : SoV) (rest : List Stmt) (z : Int) (i : Nat) (ti : Tok) (D6 : Addr) (lv : List Value) (t n6 : Nat) (bb : Bool) (tl : Tok) (U : Led) (c6 : Obj) : Prop := ∀ {j : Nat}, (z = (i : Int)) → (i ≤ 6) → (1 ≤ t) → (t ≤ 6) → (lv.length = t) → (i = j + 1 ∨ i = 0 ∧ lv.length - 1 = j) → (lv[j]? = some (.str (Tx (bitW bb)) tl)) → (c6.data = .cell (some (.ref D6))) → SegFS w g s p loose mean mg mb L' Q E m rest (lawRun 2 1 (blockOf 10 (blockOf 12 lawBody)) rest) [(Str.ofString "bare", .bool bb), (Str.ofString "i", .int z ti)] ((L' + 6, c6) :: (D6, W.listOf lv.toArray n6) :: U) [] (fun K => K [(Str.ofString "bare", .bool bb), (Str.ofString "i", .int z ti)] ((L' + 6, c6) :: (D6, W.listOf lv.toArray n6) :: U))
@[irreducible] def ζ := upick (by walk_at "m ne") ((ucat un16 un8) P)
@[irreducible] def w := ζ.1.1.1.1.1
@[irreducible] def g := ζ.1.1.1.1.2
@[irreducible] def s := ζ.1.1.1.2.1
@[irreducible] def L' := ζ.1.2.1.1.1
@[irreducible] def Q := ζ.1.2.1.1.2
@[irreducible] def E := ζ.1.2.1.2.1
@[irreducible] def m := ζ.1.2.1.2.2
@[irreducible] def rest := ζ.1.2.2.1.1
theorem core : P w g s ζ.1.1.1.2.2 ζ.1.1.2.1.1 ζ.1.1.2.1.2 ζ.1.1.2.2.1 ζ.1.1.2.2.2 L' Q E m rest ζ.1.2.2.1.2 ζ.1.2.2.2.1 ζ.1.2.2.2.2 ζ.2.1.1.1 ζ.2.1.1.2 ζ.2.1.2.1 ζ.2.1.2.2 ζ.2.2.1.1 ζ.2.2.1.2 ζ.2.2.2.1 ζ.2.2.2.2 := by
  intro j hz hi6 ht1 ht hll hj hline d6 X Tp F N ND K kk k
  revert X; k_fill; intro X
  show wpAny _ _ (execs (_ :: rest) _) _ _ _
  dsimp only [lawEnv, List.map] at *
  have hbit := bit_is ζ.2.2.1.1
  rcases hj with hj | ⟨hi0, hj⟩
  · skip
    walk_at "m go"
    · exfalso
      rename (_ = true) => he
      rw [hbit] at he
      simp at he
    · dsimp only
      refine' segF_end (kk _ _ (k)) (rs := ?rs3) ‹_› ‹_› (by k_dflt assumption) ?l ?fr ?t
      case l => walk_at "m loc"
      case fr => walk_at "m fr"
      case t => walk_at "m take"
  · subst hj
    walk_at "m go"
    · exfalso
      rename (_ = true) => he
      rw [hbit] at he
      simp at he
    · dsimp only
      refine' segF_end (kk _ _ (k)) (rs := ?rs3) ‹_› ‹_› (by k_dflt assumption) ?l ?fr ?t
      case l => walk_at "m loc"
      case fr => walk_at "m fr"
      case t => walk_at "m take"
end E_seg_x3
end
theorem seg_x3 : ∀ {w g s p loose mean mg mb L' Q E m rest z i ti D6 lv t n6 bb tl U c6}, E_seg_x3.P w g s p loose mean mg mb L' Q E m rest z i ti D6 lv t n6 bb tl U c6 := fun {w g s p loose mean mg mb L' Q E m rest z i ti D6 lv t n6 bb tl U c6} => by with_unfolding_all exact pk (c := E_seg_x3.ζ) rfl E_seg_x3.core (((((w, g), (s, p)), ((loose, mean), (mg, mb))), (((L', Q), (E, m)), ((rest, z), (i, ti)))), (((D6, lv), (t, n6)), ((bb, tl), (U, c6))))
end
section
noncomputable section
namespace E_seg_x4
def P (w : World) (g : Heap) (s : Shared) (p : Program) (loose : List Str) (mean : EoV) (mg mb : SoV) (L' : Addr) (Q : FsP) (E : VsP) (m : SoV) (rest : List Stmt) (z : Int) (i : Nat) (ti : Tok) (st tu : Nat) (u0 u4 : Tok) (D5 : Addr) (rv : List Value) (d n5 : Nat) (tr : Tok) (U : Led) (c5 : Obj) : Prop := (z = (i : Int)) → (i ≤ 6) → (d ≤ 6) → (rv[i]? = some (.str (Tx (dots d)) tr)) → (c5.data = .cell (some (.ref D5))) → SegFS w g s p loose mean mg mb L' Q E m rest (lawRun 3 1 (blockOf 10 (blockOf 12 lawBody)) rest) [(Str.ofString "i", .int z ti), (Str.ofString "step", .int (st : Int) u0), (Str.ofString "turn", .int (tu : Int) u4)] ((L' + 5, c5) :: (D5, W.listOf rv.toArray n5) :: U) [Str.ofString "hidden"] (fun K => ∀ (th : Tok), K [(Str.ofString "hidden", .str (Tx (hidL ((i + st + tu) % 3) (dots d))) th), (Str.ofString "i", .int z ti), (Str.ofString "step", .int (st : Int) u0), (Str.ofString "turn", .int (tu : Int) u4)] ((L' + 5, c5) :: (D5, W.listOf rv.toArray n5) :: U))
@[irreducible] def ζ := upick (by walk_at "m ne") ((ucat un16 (ucat un8 (ucat un2 un1))) P)
@[irreducible] def w := ζ.1.1.1.1.1
@[irreducible] def g := ζ.1.1.1.1.2
@[irreducible] def s := ζ.1.1.1.2.1
@[irreducible] def L' := ζ.1.2.1.1.1
@[irreducible] def Q := ζ.1.2.1.1.2
@[irreducible] def E := ζ.1.2.1.2.1
@[irreducible] def m := ζ.1.2.1.2.2
@[irreducible] def rest := ζ.1.2.2.1.1
theorem core : P w g s ζ.1.1.1.2.2 ζ.1.1.2.1.1 ζ.1.1.2.1.2 ζ.1.1.2.2.1 ζ.1.1.2.2.2 L' Q E m rest ζ.1.2.2.1.2 ζ.1.2.2.2.1 ζ.1.2.2.2.2 ζ.2.1.1.1.1 ζ.2.1.1.1.2 ζ.2.1.1.2.1 ζ.2.1.1.2.2 ζ.2.1.2.1.1 ζ.2.1.2.1.2 ζ.2.1.2.2.1 ζ.2.1.2.2.2 ζ.2.2.1.1 ζ.2.2.1.2 ζ.2.2.2 := by
  intro hz hi6 hd6 hrow d5 X Tp F N ND K kk k
  revert X; k_fill; intro X
  show wpAny _ _ (execs (_ :: rest) _) _ _ _
  dsimp only [lawEnv, List.map] at *
  walk_at "m go"
  try dsimp only
  simp only [f3_nat (show ζ.1.2.2.1.2 + (ζ.2.1.1.1.1 : Int) + (ζ.2.1.1.1.2 : Int) = ((ζ.1.2.2.2.1 + ζ.2.1.1.1.1 + ζ.2.1.1.1.2 : Nat) : Int) by lia)] at *
  refine' segF_end (kk _ _ (k _)) (rs := ?rs3) ‹_› ‹_› (by k_dflt assumption) ?l ?fr ?t
  case l => walk_at "m loc"
  case fr => walk_at "m fr"
  case t => walk_at "m take"
end E_seg_x4
end
theorem seg_x4 : ∀ {w g s p loose mean mg mb L' Q E m rest z i ti st tu u0 u4 D5 rv d n5 tr U c5}, E_seg_x4.P w g s p loose mean mg mb L' Q E m rest z i ti st tu u0 u4 D5 rv d n5 tr U c5 := fun {w g s p loose mean mg mb L' Q E m rest z i ti st tu u0 u4 D5 rv d n5 tr U c5} => by with_unfolding_all exact pk (c := E_seg_x4.ζ) rfl E_seg_x4.core (((((w, g), (s, p)), ((loose, mean), (mg, mb))), (((L', Q), (E, m)), ((rest, z), (i, ti)))), ((((st, tu), (u0, u4)), ((D5, rv), (d, n5))), ((tr, U), c5)))
end
section
noncomputable section
namespace E_seg_x5
def P (w : World) (g : Heap) (s : Shared) (p : Program) (loose : List Str) (mean : EoV) (mg mb : SoV) (L' : Addr) (Q : FsP) (E : VsP) (m : SoV) (rest : List Stmt) (z : Int) (i : Nat) (ti : Tok) (D7 : Addr) (gv : List Value) (n7 : Nat) (c7 : Obj) (D5 : Addr) (rv : List Value) (d n5 : Nat) (tr : Tok) (U : Led) (c5 : Obj) : Prop := ∀ {bb : Bool}, (z = (i : Int)) → (i ≤ 6) → (c7.data = .cell (some (.ref D7))) → (gv.length ≤ 6) → (d ≤ 6) → (rv[i]? = some (.str (Tx (dots d)) tr)) → (c5.data = .cell (some (.ref D5))) → SegFS w g s p loose mean mg mb L' Q E m rest (lawRun 4 1 (blockOf 10 (blockOf 12 lawBody)) rest) [(Str.ofString "bare", .bool bb), (Str.ofString "i", .int z ti)] ((L' + 5, c5) :: (D5, W.listOf rv.toArray n5) :: (L' + 7, c7) :: (D7, W.listOf gv.toArray n7) :: U) [] (fun K => ∀ (tg : Tok), K [(Str.ofString "bare", .bool bb), (Str.ofString "i", .int z ti)] ((L' + 5, c5) :: (D5, W.listOf rv.toArray n5) :: (L' + 7, c7) :: (D7, W.listOf (gv ++ [Value.str (Tx (if bb then 46 :: dots d else dots d)) tg]).toArray (n7 + 1)) :: U))
@[irreducible] def ζ := upick (by walk_at "m ne") ((ucat un16 (ucat un8 (ucat un2 un1))) P)
@[irreducible] def w := ζ.1.1.1.1.1
@[irreducible] def g := ζ.1.1.1.1.2
@[irreducible] def s := ζ.1.1.1.2.1
@[irreducible] def L' := ζ.1.2.1.1.1
@[irreducible] def Q := ζ.1.2.1.1.2
@[irreducible] def E := ζ.1.2.1.2.1
@[irreducible] def m := ζ.1.2.1.2.2
@[irreducible] def rest := ζ.1.2.2.1.1
theorem core : P w g s ζ.1.1.1.2.2 ζ.1.1.2.1.1 ζ.1.1.2.1.2 ζ.1.1.2.2.1 ζ.1.1.2.2.2 L' Q E m rest ζ.1.2.2.1.2 ζ.1.2.2.2.1 ζ.1.2.2.2.2 ζ.2.1.1.1.1 ζ.2.1.1.1.2 ζ.2.1.1.2.1 ζ.2.1.1.2.2 ζ.2.1.2.1.1 ζ.2.1.2.1.2 ζ.2.1.2.2.1 ζ.2.1.2.2.2 ζ.2.2.1.1 ζ.2.2.1.2 ζ.2.2.2 := by
  intro bb hz hi6 d7 hgl hd6 hrow d5 X Tp F N ND K kk k
  revert X; k_fill; intro X
  show wpAny _ _ (execs (_ :: rest) _) _ _ _
  dsimp only [lawEnv, List.map] at *
  have hdl := dots_len ζ.2.1.2.2.1
  cases bb
  · walk_at "m go"
    try dsimp only
    simp only [List.push_toArray] at *
    refine' segF_end (kk _ _ (k _)) (rs := ?rs3) ‹_› ‹_› (by k_dflt assumption) ?l ?fr ?t
    case l => walk_at "m loc"
    case fr => walk_at "m fr"
    case t => walk_at "m take"
  · walk_at "m go"
    try dsimp only
    simp only [List.push_toArray] at *
    refine' segF_end (kk _ _ (k _)) (rs := ?rs4) ‹_› ‹_› (by k_dflt assumption) ?l ?fr ?t
    case l => walk_at "m loc"
    case fr => walk_at "m fr"
    case t => walk_at "m take"
end E_seg_x5
end
theorem seg_x5 : ∀ {w g s p loose mean mg mb L' Q E m rest z i ti D7 gv n7 c7 D5 rv d n5 tr U c5}, E_seg_x5.P w g s p loose mean mg mb L' Q E m rest z i ti D7 gv n7 c7 D5 rv d n5 tr U c5 := fun {w g s p loose mean mg mb L' Q E m rest z i ti D7 gv n7 c7 D5 rv d n5 tr U c5} => by with_unfolding_all exact pk (c := E_seg_x5.ζ) rfl E_seg_x5.core (((((w, g), (s, p)), ((loose, mean), (mg, mb))), (((L', Q), (E, m)), ((rest, z), (i, ti)))), ((((D7, gv), (n7, c7)), ((D5, rv), (d, n5))), ((tr, U), c5)))
end
section
noncomputable section
namespace E_seg_x6
def P (w : World) (g : Heap) (s : Shared) (p : Program) (loose : List Str) (mean : EoV) (mg mb : SoV) (L' : Addr) (Q : FsP) (E : VsP) (m : SoV) (rest : List Stmt) (i : Nat) (ti : Tok) (st tu : Nat) (u0 u4 tt th : Tok) (tx hid : List Nat) (D5 : Addr) (rv : List Value) (d n5 : Nat) (tr : Tok) (U : Led) (c5 : Obj) : Prop := ∀ {z : Int} {bb : Bool}, (z = (i : Int)) → (i ≤ 6) → (tx.length ≤ 500) → (hid.length ≤ 50) → (d ≤ 6) → (rv[i]? = some (.str (Tx (dots d)) tr)) → (c5.data = .cell (some (.ref D5))) → SegFS w g s p loose mean mg mb L' Q E m rest (lawRun 5 1 (blockOf 10 (blockOf 12 lawBody)) rest) [(Str.ofString "text", .str (Tx tx) tt), (Str.ofString "bare", .bool bb), (Str.ofString "hidden", .str (Tx hid) th), (Str.ofString "i", .int z ti), (Str.ofString "step", .int (st : Int) u0), (Str.ofString "turn", .int (tu : Int) u4)] ((L' + 5, c5) :: (D5, W.listOf rv.toArray n5) :: U) [Str.ofString "text"] (fun K => ∀ (tt' : Tok), K [(Str.ofString "text", .str (Tx (tx ++ ((if bb then dots d else hid) ++ eol ((i + st + tu / 3) % 3)))) tt'), (Str.ofString "bare", .bool bb), (Str.ofString "hidden", .str (Tx hid) th), (Str.ofString "i", .int z ti), (Str.ofString "step", .int (st : Int) u0), (Str.ofString "turn", .int (tu : Int) u4)] ((L' + 5, c5) :: (D5, W.listOf rv.toArray n5) :: U))
@[irreducible] def ζ := upick (by walk_at "m ne") ((ucat un16 (ucat un8 (ucat un4 un2))) P)
@[irreducible] def w := ζ.1.1.1.1.1
@[irreducible] def g := ζ.1.1.1.1.2
@[irreducible] def s := ζ.1.1.1.2.1
@[irreducible] def L' := ζ.1.2.1.1.1
@[irreducible] def Q := ζ.1.2.1.1.2
@[irreducible] def E := ζ.1.2.1.2.1
@[irreducible] def m := ζ.1.2.1.2.2
@[irreducible] def rest := ζ.1.2.2.1.1
theorem core : P w g s ζ.1.1.1.2.2 ζ.1.1.2.1.1 ζ.1.1.2.1.2 ζ.1.1.2.2.1 ζ.1.1.2.2.2 L' Q E m rest ζ.1.2.2.1.2 ζ.1.2.2.2.1 ζ.1.2.2.2.2 ζ.2.1.1.1.1 ζ.2.1.1.1.2 ζ.2.1.1.2.1 ζ.2.1.1.2.2 ζ.2.1.2.1.1 ζ.2.1.2.1.2 ζ.2.1.2.2.1 ζ.2.1.2.2.2 ζ.2.2.1.1.1 ζ.2.2.1.1.2 ζ.2.2.1.2.1 ζ.2.2.1.2.2 ζ.2.2.2.1 ζ.2.2.2.2 := by
  intro z bb hz hi6 htl hhl hd6 hrow d5 X Tp F N ND K kk k
  revert X; k_fill; intro X
  show wpAny _ _ (execs (_ :: rest) _) _ _ _
  dsimp only [lawEnv, List.map] at *
  have hdl := dots_len ζ.2.2.1.1.2
  have hel := eol_len ((ζ.1.2.2.1.2 + ζ.1.2.2.2.2 + ζ.2.1.1.1.1 / 3) % 3)
  subst hz
  have hk3 := f3_at (st := ζ.1.2.2.2.2) (tu := ζ.2.1.1.1.1) (i := ζ.1.2.2.1.2)
  cases bb
  · walk_at "m go"
    try dsimp only
    refine' segF_end (kk _ _ (k _)) (rs := ?rs3) ‹_› ‹_› (by k_dflt assumption) ?l ?fr ?t
    case l => walk_at "m loc"
    case fr => walk_at "m fr"
    case t => walk_at "m take"
  · walk_at "m go"
    try dsimp only
    refine' segF_end (kk _ _ (k _)) (rs := ?rs4) ‹_› ‹_› (by k_dflt assumption) ?l ?fr ?t
    case l => walk_at "m loc"
    case fr => walk_at "m fr"
    case t => walk_at "m take"
end E_seg_x6
end
theorem seg_x6 : ∀ {w g s p loose mean mg mb L' Q E m rest i ti st tu u0 u4 tt th tx hid D5 rv d n5 tr U c5}, E_seg_x6.P w g s p loose mean mg mb L' Q E m rest i ti st tu u0 u4 tt th tx hid D5 rv d n5 tr U c5 := fun {w g s p loose mean mg mb L' Q E m rest i ti st tu u0 u4 tt th tx hid D5 rv d n5 tr U c5} => by with_unfolding_all exact pk (c := E_seg_x6.ζ) rfl E_seg_x6.core (((((w, g), (s, p)), ((loose, mean), (mg, mb))), (((L', Q), (E, m)), ((rest, i), (ti, st)))), ((((tu, u0), (u4, tt)), ((th, tx), (hid, D5))), (((rv, d), (n5, tr)), (U, c5))))
end
section
noncomputable section
namespace E_seg_x7
def P (w : World) (g : Heap) (s : Shared) (p : Program) (loose : List Str) (mean : EoV) (mg mb : SoV) (L' : Addr) (Q : FsP) (E : VsP) (m : SoV) (rest : List Stmt) (z : Int) (i : Nat) (ti : Tok) (D7 : Addr) (tt th tg : Tok) (tx hid gi : List Nat) (gv : List Value) (n7 : Nat) (U : Led) (c7 : Obj) : Prop := ∀ {bb : Bool}, (z = (i : Int)) → (i ≤ 6) → (tx.length ≤ 500) → (hid.length ≤ 50) → (gi.length ≤ 50) → (gv[i]? = some (.str (Tx gi) tg)) → (c7.data = .cell (some (.ref D7))) → SegFS w g s p loose mean mg mb L' Q E m rest (lawRun 6 1 (blockOf 10 (blockOf 12 lawBody)) rest) [(Str.ofString "sent", .str (Tx tx) tt), (Str.ofString "bare", .bool bb), (Str.ofString "hidden", .str (Tx hid) th), (Str.ofString "i", .int z ti)] ((L' + 7, c7) :: (D7, W.listOf gv.toArray n7) :: U) [Str.ofString "sent"] (fun K => ∀ (tt' : Tok), K [(Str.ofString "sent", .str (Tx (tx ++ ((if bb then gi else hid) ++ [13, 10]))) tt'), (Str.ofString "bare", .bool bb), (Str.ofString "hidden", .str (Tx hid) th), (Str.ofString "i", .int z ti)] ((L' + 7, c7) :: (D7, W.listOf gv.toArray n7) :: U))
@[irreducible] def ζ := upick (by walk_at "m ne") ((ucat un16 (ucat un8 (ucat un2 un1))) P)
@[irreducible] def w := ζ.1.1.1.1.1
@[irreducible] def g := ζ.1.1.1.1.2
@[irreducible] def s := ζ.1.1.1.2.1
@[irreducible] def L' := ζ.1.2.1.1.1
@[irreducible] def Q := ζ.1.2.1.1.2
@[irreducible] def E := ζ.1.2.1.2.1
@[irreducible] def m := ζ.1.2.1.2.2
@[irreducible] def rest := ζ.1.2.2.1.1
theorem core : P w g s ζ.1.1.1.2.2 ζ.1.1.2.1.1 ζ.1.1.2.1.2 ζ.1.1.2.2.1 ζ.1.1.2.2.2 L' Q E m rest ζ.1.2.2.1.2 ζ.1.2.2.2.1 ζ.1.2.2.2.2 ζ.2.1.1.1.1 ζ.2.1.1.1.2 ζ.2.1.1.2.1 ζ.2.1.1.2.2 ζ.2.1.2.1.1 ζ.2.1.2.1.2 ζ.2.1.2.2.1 ζ.2.1.2.2.2 ζ.2.2.1.1 ζ.2.2.1.2 ζ.2.2.2 := by
  intro bb hz hi6 htl hhl hgl hg d7 X Tp F N ND K kk k
  revert X; k_fill; intro X
  show wpAny _ _ (execs (_ :: rest) _) _ _ _
  dsimp only [lawEnv, List.map] at *
  cases bb
  · walk_at "m go"
    try dsimp only
    refine' segF_end (kk _ _ (k _)) (rs := ?rs3) ‹_› ‹_› (by k_dflt assumption) ?l ?fr ?t
    case l => walk_at "m loc"
    case fr => walk_at "m fr"
    case t => walk_at "m take"
  · walk_at "m go"
    try dsimp only
    refine' segF_end (kk _ _ (k _)) (rs := ?rs4) ‹_› ‹_› (by k_dflt assumption) ?l ?fr ?t
    case l => walk_at "m loc"
    case fr => walk_at "m fr"
    case t => walk_at "m take"
end E_seg_x7
end
theorem seg_x7 : ∀ {w g s p loose mean mg mb L' Q E m rest z i ti D7 tt th tg tx hid gi gv n7 U c7}, E_seg_x7.P w g s p loose mean mg mb L' Q E m rest z i ti D7 tt th tg tx hid gi gv n7 U c7 := fun {w g s p loose mean mg mb L' Q E m rest z i ti D7 tt th tg tx hid gi gv n7 U c7} => by with_unfolding_all exact pk (c := E_seg_x7.ζ) rfl E_seg_x7.core (((((w, g), (s, p)), ((loose, mean), (mg, mb))), (((L', Q), (E, m)), ((rest, z), (i, ti)))), ((((D7, tt), (th, tg)), ((tx, hid), (gi, gv))), ((n7, U), c7)))
end
section
noncomputable section
namespace E_seg_x8
def P (w : World) (g : Heap) (s : Shared) (p : Program) (loose : List Str) (mean : EoV) (mg mb : SoV) (L' : Addr) (Q : FsP) (E : VsP) (m : SoV) (rest : List Stmt) (xh : Addr) (U : Led) : Prop := SegFS w g s p loose mean mg mb L' Q E m rest (lawRun 7 1 (blockOf 10 (blockOf 12 lawBody)) rest) [(Str.ofString "here", .ref xh)] (U) [Str.ofString "ahead"] (fun K => K [(Str.ofString "ahead", .ref xh), (Str.ofString "here", .ref xh)] (U))
@[irreducible] def ζ := upick (by walk_at "m ne") ((ucat un8 (ucat un4 (ucat un2 un1))) P)
@[irreducible] def w := ζ.1.1.1.1
@[irreducible] def g := ζ.1.1.1.2
@[irreducible] def s := ζ.1.1.2.1
@[irreducible] def L' := ζ.2.1.1.1
@[irreducible] def Q := ζ.2.1.1.2
@[irreducible] def E := ζ.2.1.2.1
@[irreducible] def m := ζ.2.1.2.2
@[irreducible] def rest := ζ.2.2.1.1
theorem core : P w g s ζ.1.1.2.2 ζ.1.2.1.1 ζ.1.2.1.2 ζ.1.2.2.1 ζ.1.2.2.2 L' Q E m rest ζ.2.2.1.2 ζ.2.2.2 := by
  intro X Tp F N ND K kk k
  revert X; k_fill; intro X
  show wpAny _ _ (execs (_ :: rest) _) _ _ _
  dsimp only [lawEnv, List.map] at *
  walk_at "m go"
  try dsimp only
  refine' segF_end (kk _ _ (k)) (rs := ?rs3) ‹_› ‹_› (by k_dflt assumption) ?l ?fr ?t
  case l => walk_at "m loc"
  case fr => walk_at "m fr"
  case t => walk_at "m take"
end E_seg_x8
end
theorem seg_x8 : ∀ {w g s p loose mean mg mb L' Q E m rest xh U}, E_seg_x8.P w g s p loose mean mg mb L' Q E m rest xh U := fun {w g s p loose mean mg mb L' Q E m rest xh U} => by with_unfolding_all exact pk (c := E_seg_x8.ζ) rfl E_seg_x8.core ((((w, g), (s, p)), ((loose, mean), (mg, mb))), (((L', Q), (E, m)), ((rest, xh), U)))
end
section
inductive JX (w : World) (L' D Dl D5 D6 D7 rx : Addr) (n t st tu kd wd n5 n6 : Nat) (rv lv : List Value) (ds : List Nat) (bare : Nat → Bool) (u0 u1 u2 u4 uk : Tok) (c4 c5 c6 c7 : Obj) (U : List (Addr × Obj)) (i : Nat) (V : List (Str × Value)) (T : List (Addr × Obj)) : Prop
  | mk (xa : Addr) (da : Ws) (o n7 : Nat) (ta ts : Tok) (gv : List Value) (q0 : o ≤ 1) (q1 : WsOk (lead ((if i = 0 then wd else ds.getD (i - 1) 0) + 1) o kd) da) (q2 : TxsAre gv (((itsOf ds bare (st + tu)).take i).map tokP)) (q3 : V = [(Str.ofString "ahead", .ref xa), (Str.ofString "text", .str (Tx (txU (itsOf ds bare (st + tu)) (st + tu / 3) i)) ta), (Str.ofString "sent", .str (Tx (snU (itsOf ds bare (st + tu)) i)) ts), (Str.ofString "kind", .int (kd : Int) uk), (Str.ofString "step", .int (st : Int) u0), (Str.ofString "turn", .int (tu : Int) u4), (Str.ofString "runs", .ref Dl), (Str.ofString "ring", .ref rx), (Str.ofString "number", .int (n : Int) u2), (Str.ofString "total", .int (t : Int) u1), (Str.ofString "heaps", .ref D)]) (q4 : T = wsT w xa da ++ ((L' + 4, c4) :: ((L' + 5, c5) :: ((L' + 6, c6) :: ((L' + 7, c7) :: ((D5, W.listOf rv.toArray n5) :: ((D6, W.listOf lv.toArray n6) :: ((D7, W.listOf gv.toArray n7) :: ((U)))))))))) : JX w L' D Dl D5 D6 D7 rx n t st tu kd wd n5 n6 rv lv ds bare u0 u1 u2 u4 uk c4 c5 c6 c7 U i V T
theorem x9_tk1 (p0 : Addr × Obj) (B1 : Led) (p2 p3 p4 p5 p6 p7 p8 : Addr × Obj) (B9 : Led) : TakeAll (p0 :: (B1 ++ (p2 :: (p3 :: (p4 :: (p5 :: (p6 :: (p7 :: (p8 :: (B9)))))))))) (p3 :: (p6 :: (p0 :: (B1 ++ (p2 :: (p4 :: (p5 :: (p7 :: (p8 :: (B9)))))))))) ([]) := take_blocks [[p0], B1, [p2], [p3], [p4], [p5], [p6], [p7], [p8], B9] 10 rfl [3, 6, 0, 1, 2, 4, 5, 7, 8, 9] [] (by decide +kernel)
theorem x9_tk2 (B0 : Led) (p1 p2 p3 : Addr × Obj) (B4 : Led) (p5 p6 p7 p8 p9 : Addr × Obj) (B10 : Led) : TakeAll (B0 ++ (p1 :: (p2 :: (p3 :: (B4 ++ (p5 :: (p6 :: (p7 :: (p8 :: (p9 :: (B10))))))))))) (B0 ++ (B4 ++ (p1 :: (p2 :: (p3 :: (p5 :: (p6 :: (p7 :: (p8 :: (p9 :: (B10))))))))))) ([]) := take_blocks [B0, [p1], [p2], [p3], B4, [p5], [p6], [p7], [p8], [p9], B10] 11 rfl [0, 4, 1, 2, 3, 5, 6, 7, 8, 9, 10] [] (by decide +kernel)
theorem x9_tk3 (B0 B1 : Led) (p2 p3 p4 p5 p6 p7 p8 p9 : Addr × Obj) (B10 : Led) : TakeAll (B0 ++ (B1 ++ (p2 :: (p3 :: (p4 :: (p5 :: (p6 :: (p7 :: (p8 :: (p9 :: (B10))))))))))) (p6 :: (p8 :: (B0 ++ (B1 ++ (p2 :: (p3 :: (p4 :: (p5 :: (p7 :: (p9 :: (B10))))))))))) ([]) := take_blocks [B0, B1, [p2], [p3], [p4], [p5], [p6], [p7], [p8], [p9], B10] 11 rfl [6, 8, 0, 1, 2, 3, 4, 5, 7, 9, 10] [] (by decide +kernel)
theorem x9_tk4 (p0 p1 : Addr × Obj) (B2 B3 : Led) (p4 p5 p6 p7 p8 p9 : Addr × Obj) (B10 : Led) : TakeAll (p0 :: (p1 :: (B2 ++ (B3 ++ (p4 :: (p5 :: (p6 :: (p7 :: (p8 :: (p9 :: (B10))))))))))) (p4 :: (p5 :: (p0 :: (p1 :: (B2 ++ (B3 ++ (p6 :: (p7 :: (p8 :: (p9 :: (B10))))))))))) ([]) := take_blocks [[p0], [p1], B2, B3, [p4], [p5], [p6], [p7], [p8], [p9], B10] 11 rfl [4, 5, 0, 1, 2, 3, 6, 7, 8, 9, 10] [] (by decide +kernel)
theorem x9_tk5 (p0 p1 p2 p3 : Addr × Obj) (B4 B5 : Led) (p6 p7 p8 p9 : Addr × Obj) (B10 : Led) : TakeAll (p0 :: (p1 :: (p2 :: (p3 :: (B4 ++ (B5 ++ (p6 :: (p7 :: (p8 :: (p9 :: (B10))))))))))) (p0 :: (p1 :: (p8 :: (p9 :: (p2 :: (p3 :: (B4 ++ (B5 ++ (p6 :: (p7 :: (B10))))))))))) ([]) := take_blocks [[p0], [p1], [p2], [p3], B4, B5, [p6], [p7], [p8], [p9], B10] 11 rfl [0, 1, 8, 9, 2, 3, 4, 5, 6, 7, 10] [] (by decide +kernel)
theorem x9_tk6 (p0 p1 p2 p3 p4 p5 : Addr × Obj) (B6 B7 : Led) (p8 p9 : Addr × Obj) (B10 : Led) : TakeAll (p0 :: (p1 :: (p2 :: (p3 :: (p4 :: (p5 :: (B6 ++ (B7 ++ (p8 :: (p9 :: (B10))))))))))) (p0 :: (p1 :: (p2 :: (p3 :: (p4 :: (p5 :: (B6 ++ (B7 ++ (p8 :: (p9 :: (B10))))))))))) ([]) := take_blocks [[p0], [p1], [p2], [p3], [p4], [p5], B6, B7, [p8], [p9], B10] 11 rfl [0, 1, 2, 3, 4, 5, 6, 7, 8, 9, 10] [] (by decide +kernel)
theorem x9_tk7 (p0 p1 p2 p3 p4 p5 : Addr × Obj) (B6 B7 : Led) (p8 p9 : Addr × Obj) (B10 : Led) : TakeAll (p0 :: (p1 :: (p2 :: (p3 :: (p4 :: (p5 :: (B6 ++ (B7 ++ (p8 :: (p9 :: (B10))))))))))) (p2 :: (p3 :: (p0 :: (p1 :: (p4 :: (p5 :: (B6 ++ (B7 ++ (p8 :: (p9 :: (B10))))))))))) ([]) := take_blocks [[p0], [p1], [p2], [p3], [p4], [p5], B6, B7, [p8], [p9], B10] 11 rfl [2, 3, 0, 1, 4, 5, 6, 7, 8, 9, 10] [] (by decide +kernel)
theorem x9_tk9 (p0 p1 p2 p3 p4 p5 : Addr × Obj) (B6 B7 : Led) (p8 p9 : Addr × Obj) (B10 : Led) : TakeAll (p0 :: (p1 :: (p2 :: (p3 :: (p4 :: (p5 :: (B6 ++ (B7 ++ (p8 :: (p9 :: (B10))))))))))) (p8 :: (B6 ++ (p9 :: (p2 :: (p4 :: (p0 :: (p3 :: (p5 :: (p1 :: (B10)))))))))) (B7) := take_blocks [[p0], [p1], [p2], [p3], [p4], [p5], B6, B7, [p8], [p9], B10] 11 rfl [8, 6, 9, 2, 4, 0, 3, 5, 1, 10] [7] (by decide +kernel)
noncomputable section
namespace E_seg_x9
def P (w : World) (g : Heap) (s : Shared) (p : Program) (loose : List Str) (mean : EoV) (mg mb : SoV) (L' : Addr) (Q : FsP) (E : VsP) (m : SoV) (rest : List Stmt) (D Dl D5 D6 D7 rx xa : Addr) (da : Ws) (n t st tu kd wd hi o n5 n6 n7 : Nat) (rv lv : List Value) (ds : List Nat) (bare : Nat → Bool) (u0 u1 u2 u4 u6 uk ta ts : Tok) (U : Led) (c4 c5 c6 c7 : Obj) : Prop := (hi ≤ 6) → (ds.length = hi) → (∀ d ∈ ds, d ≤ 6) → (1 ≤ t) → (t ≤ 6) → (st ≤ 6) → (tu ≤ 11) → (kd ≤ 1) → (wd ≤ 6) → (o ≤ 1) → (WsOk (lead (wd + 1) o kd) da) → (TxsAre rv (ds.map dots)) → (lv.length = t) → (∀ i < hi, ∃ tl, lv[(i + t - 1) % t]? = some (.str (Tx (bitW (bare i))) tl)) → (∀ i < hi, decide (ds.getD i 0 < if i = 0 then wd else ds.getD (i - 1) 0) = bare i) → (c4.data = .cell (some (.int (hi : Int) u6))) → (c5.data = .cell (some (.ref D5))) → (c6.data = .cell (some (.ref D6))) → (c7.data = .cell (some (.ref D7))) → (hi ≤ t) → SegKS w g s p loose mean mg mb L' Q E m rest (lawRun 10 1 (blockOf 12 lawBody) rest) [(Str.ofString "ahead", .ref xa), (Str.ofString "text", .str (Str.ofString "") ta), (Str.ofString "sent", .str (Str.ofString "") ts), (Str.ofString "kind", .int (kd : Int) uk), (Str.ofString "step", .int (st : Int) u0), (Str.ofString "turn", .int (tu : Int) u4), (Str.ofString "runs", .ref Dl), (Str.ofString "ring", .ref rx), (Str.ofString "number", .int (n : Int) u2), (Str.ofString "total", .int (t : Int) u1), (Str.ofString "heaps", .ref D)] (wsT w xa da ++ ((L' + 4, c4) :: ((L' + 5, c5) :: ((L' + 6, c6) :: ((L' + 7, c7) :: ((D5, W.listOf rv.toArray n5) :: ((D6, W.listOf lv.toArray n6) :: ((D7, W.listOf (#[] : Array Value) n7) :: ((U)))))))))) (fun K => ∀ V T, JX w L' D Dl D5 D6 D7 rx n t st tu kd wd n5 n6 rv lv ds bare u0 u1 u2 u4 uk c4 c5 c6 c7 U hi V T → K V T)
@[irreducible] def ζ := upick (by walk_at "m ne") ((ucat un32 (ucat un16 un1)) P)
@[irreducible] def w := ζ.1.1.1.1.1.1
@[irreducible] def g := ζ.1.1.1.1.1.2
@[irreducible] def s := ζ.1.1.1.1.2.1
@[irreducible] def L' := ζ.1.1.2.1.1.1
@[irreducible] def Q := ζ.1.1.2.1.1.2
@[irreducible] def E := ζ.1.1.2.1.2.1
@[irreducible] def m := ζ.1.1.2.1.2.2
@[irreducible] def rest := ζ.1.1.2.2.1.1
@[irreducible] def D := ζ.1.1.2.2.1.2
@[irreducible] def Dl := ζ.1.1.2.2.2.1
@[irreducible] def D5 := ζ.1.1.2.2.2.2
@[irreducible] def D6 := ζ.1.2.1.1.1.1
@[irreducible] def D7 := ζ.1.2.1.1.1.2
@[irreducible] def rx := ζ.1.2.1.1.2.1
@[irreducible] def xa := ζ.1.2.1.1.2.2
@[irreducible] def da := ζ.1.2.1.2.1.1
@[irreducible] def n := ζ.1.2.1.2.1.2
@[irreducible] def t := ζ.1.2.1.2.2.1
@[irreducible] def st := ζ.1.2.1.2.2.2
@[irreducible] def tu := ζ.1.2.2.1.1.1
@[irreducible] def kd := ζ.1.2.2.1.1.2
@[irreducible] def o := ζ.1.2.2.2.1.1
@[irreducible] def n5 := ζ.1.2.2.2.1.2
@[irreducible] def n6 := ζ.1.2.2.2.2.1
@[irreducible] def n7 := ζ.1.2.2.2.2.2
@[irreducible] def rv := ζ.2.1.1.1.1.1
@[irreducible] def lv := ζ.2.1.1.1.1.2
@[irreducible] def ds := ζ.2.1.1.1.2.1
@[irreducible] def bare := ζ.2.1.1.1.2.2
@[irreducible] def u0 := ζ.2.1.1.2.1.1
@[irreducible] def u1 := ζ.2.1.1.2.1.2
@[irreducible] def u2 := ζ.2.1.1.2.2.1
@[irreducible] def u4 := ζ.2.1.1.2.2.2
@[irreducible] def uk := ζ.2.1.2.1.1.2
@[irreducible] def ta := ζ.2.1.2.1.2.1
@[irreducible] def ts := ζ.2.1.2.1.2.2
@[irreducible] def U := ζ.2.1.2.2.1.1
@[irreducible] def c4 := ζ.2.1.2.2.1.2
@[irreducible] def c5 := ζ.2.1.2.2.2.1
@[irreducible] def c6 := ζ.2.1.2.2.2.2
@[irreducible] def c7 := ζ.2.2
theorem core : P w g s ζ.1.1.1.1.2.2 ζ.1.1.1.2.1.1 ζ.1.1.1.2.1.2 ζ.1.1.1.2.2.1 ζ.1.1.1.2.2.2 L' Q E m rest D Dl D5 D6 D7 rx xa da n t st tu kd ζ.1.2.2.1.2.1 ζ.1.2.2.1.2.2 o n5 n6 n7 rv lv ds bare u0 u1 u2 u4 ζ.2.1.2.1.1.1 uk ta ts U c4 c5 c6 c7 := by
  intro hh hdl hdb ht1 ht6 hst htu hkd hw ho hda hrv hll hbb hbare d4 d5 d6 d7 hht X Tp F N ND K kk k
  revert X; k_fill; intro X
  show wpAny _ _ (execs (_ :: rest) _) _ _ _
  dsimp only [lawEnv, List.map] at *
  walk_at "m go"
  walk_at "m for"
  walk_at "m go"
  have hits := snd_le hdb bare (st + tu)
  refine' for_rangeT (L := L') (n := ζ.1.2.2.1.2.2) (J := JX w L' D Dl D5 D6 D7 rx n t st tu kd ζ.1.2.2.1.2.1 n5 n6 rv lv ds bare u0 u1 u2 u4 uk c4 c5 c6 c7 U) (V₀ := _) (by rfl) ‹_› ?hsm ?hn (by rfl) (by rfl) (by rfl) ‹_› ?lc ‹_› (by k_dflt assumption) ⟨xa, da, o, n7, ta, ts, [], ho, hda, .nil, rfl, rfl⟩ ?tk ?_ ?_
  case hsm => exact rg_small (by lia) (by lia) (by lia) (by lia)
  case hn => exact rg_size (by split <;> lia)
  case lc => walk_at "m loc"
  case tk => exact TakeAll.whole
  · skip
    intro i t_ m V T h₁ tk₁ I oI E' hi' j F₁ N₁ nd₁
    show wpAny _ _ _ _ _ { s with heap := h₁, toks := tk₁ }
    obtain ⟨xa, da, o, n7, ta, ts, gv, ho, hda, hgv, rfl, rfl⟩ := j
    have hil : i < ds.length := by lia
    have hd6 : ds.getD i 0 ≤ 6 := by rw [List.getD_eq_getElem?_getD, List.getElem?_eq_getElem hil]; exact hdb _ (List.getElem_mem hil)
    have he6 : (if i = 0 then ζ.1.2.2.1.2.1 else ds.getD (i - 1) 0) ≤ 6 := by
      split
      · exact hw
      · rw [List.getD_eq_getElem?_getD, List.getElem?_eq_getElem (by lia)]; exact hdb _ (List.getElem_mem _)
    obtain ⟨tr, hrow⟩ := txs_get hrv (i := i) (l := dots (ds.getD i 0)) (by rw [List.getElem?_map, List.getD_eq_getElem?_getD, List.getElem?_eq_getElem hil]; rfl)
    obtain ⟨tl, hline⟩ := hbb i hi'
    have hjj : i = (i + t - 1) % t + 1 ∨ i = 0 ∧ lv.length - 1 = (i + t - 1) % t := by
      rcases Nat.eq_zero_or_pos i with h0 | h0
      · right; refine ⟨h0, ?_⟩; rw [hll, h0, Nat.zero_add, Nat.mod_eq_of_lt (by lia)]
      · left; rw [show i + t - 1 = (i - 1) + t by lia, Nat.add_mod_right, Nat.mod_eq_of_lt (by lia)]; lia
    have hgvl : gv.length = i := by
      have := StrsAre.length hgv
      rw [this, List.length_map, List.length_map, List.length_take, its_len]; lia
    have hhl : (hidL ((i + st + tu) % 3) (dots (ds.getD i 0))).length ≤ 50 := by
      rw [hid_sent (by lia)]; have := sentP_len ((i + st + tu) % 3 + 1, ds.getD i 0); simp only at this; lia
    have htx := txU_len hits (st + tu / 3) i (by lia)
    have hsn := snU_len hits i (by lia)
    have hgl2 : (if bare i then 46 :: dots (ds.getD i 0) else dots (ds.getD i 0)).length ≤ 50 := by
      split <;> simp only [List.length_cons, dots_len] <;> lia
    have hgi : ∀ tg : Tok, (gv ++ [Value.str (Tx (if bare i then 46 :: dots (ds.getD i 0) else dots (ds.getD i 0))) tg])[i]? = some (.str (Tx (if bare i then 46 :: dots (ds.getD i 0) else dots (ds.getD i 0))) tg) := fun tg => by rw [← hgvl]; simp
    replace hgi := fun tg => hgi tg
    have sb_0 := Stt.of (V := [(Str.ofString "i", .int (0 + (i : Int) * 1) t_), (Str.ofString "ahead", .ref xa), (Str.ofString "text", .str (Tx (txU (itsOf ds bare (st + tu)) (st + tu / 3) i)) ta), (Str.ofString "sent", .str (Tx (snU (itsOf ds bare (st + tu)) i)) ts), (Str.ofString "kind", .int (kd : Int) uk), (Str.ofString "step", .int (st : Int) u0), (Str.ofString "turn", .int (tu : Int) u4), (Str.ofString "runs", .ref Dl), (Str.ofString "ring", .ref rx), (Str.ofString "number", .int (n : Int) u2), (Str.ofString "total", .int (t : Int) u1), (Str.ofString "heaps", .ref D)]) F₁ N₁ nd₁
    refine useF [Str.ofString "here", Str.ofString "i", Str.ofString "kind", Str.ofString "step", Str.ofString "turn"] [(Str.ofString "ahead", .ref xa), (Str.ofString "text", .str (Tx (txU (itsOf ds bare (st + tu)) (st + tu / 3) i)) ta), (Str.ofString "sent", .str (Tx (snU (itsOf ds bare (st + tu)) i)) ts), (Str.ofString "runs", .ref Dl), (Str.ofString "ring", .ref rx), (Str.ofString "number", .int (n : Int) u2), (Str.ofString "total", .int (t : Int) u1), (Str.ofString "heaps", .ref D)] (fun m => seg_x1 (m := m) (U := (I, oI) :: (wsT w xa da ++ ((L' + 4, c4) :: ((L' + 6, c6) :: ((L' + 7, c7) :: ((D6, W.listOf lv.toArray n6) :: ((D7, W.listOf gv.toArray n7) :: ((U))))))))) (by lia : (0 + (i : Int) * 1) = (i : Int)) (by lia : i ≤ 6) hd6 hkd hrow hst htu d5) X Tp sb_0 (fun _ => ⟨rfl, rfl, rfl, rfl, trivial⟩) (x9_tk1 (I, oI) (wsT w xa da) (L' + 4, c4) (L' + 5, c5) (L' + 6, c6) (L' + 7, c7) (D5, W.listOf rv.toArray n5) (D6, W.listOf lv.toArray n6) (D7, W.listOf gv.toArray n7) (U)) (by rfl) ?_
    intro xh dh oh hoh hdh h_1 tk_1 st_1
    show wpAny _ _ _ _ _ { s with heap := h_1, toks := tk_1 }
    refine useF [Str.ofString "bare", Str.ofString "here", Str.ofString "ahead"] [(Str.ofString "i", .int (0 + (i : Int) * 1) t_), (Str.ofString "kind", .int (kd : Int) uk), (Str.ofString "step", .int (st : Int) u0), (Str.ofString "turn", .int (tu : Int) u4), (Str.ofString "text", .str (Tx (txU (itsOf ds bare (st + tu)) (st + tu / 3) i)) ta), (Str.ofString "sent", .str (Tx (snU (itsOf ds bare (st + tu)) i)) ts), (Str.ofString "runs", .ref Dl), (Str.ofString "ring", .ref rx), (Str.ofString "number", .int (n : Int) u2), (Str.ofString "total", .int (t : Int) u1), (Str.ofString "heaps", .ref D)] (fun m => seg_x2 (m := m) (U := (L' + 5, c5) :: ((D5, W.listOf rv.toArray n5) :: ((I, oI) :: ((L' + 4, c4) :: ((L' + 6, c6) :: ((L' + 7, c7) :: ((D6, W.listOf lv.toArray n6) :: ((D7, W.listOf gv.toArray n7) :: ((U)))))))))) hdh hda hd6 he6 hoh ho hkd) X Tp st_1 (fun _ => ⟨rfl, rfl, trivial⟩) (x9_tk2 (wsT w xh dh) (L' + 5, c5) (D5, W.listOf rv.toArray n5) (I, oI) (wsT w xa da) (L' + 4, c4) (L' + 6, c6) (L' + 7, c7) (D6, W.listOf lv.toArray n6) (D7, W.listOf gv.toArray n7) (U)) (by rfl) ?_
    intro h_2 tk_2 st_2
    show wpAny _ _ _ _ _ { s with heap := h_2, toks := tk_2 }
    obtain ⟨⟨m_2, F_2⟩, N_2, nd_2⟩ := st_2
    rw [hbare i hi'] at F_2
    have sb_2 := Stt.of (V := [(Str.ofString "bare", .bool (bare i)), (Str.ofString "here", .ref xh), (Str.ofString "ahead", .ref xa), (Str.ofString "i", .int (0 + (i : Int) * 1) t_), (Str.ofString "kind", .int (kd : Int) uk), (Str.ofString "step", .int (st : Int) u0), (Str.ofString "turn", .int (tu : Int) u4), (Str.ofString "text", .str (Tx (txU (itsOf ds bare (st + tu)) (st + tu / 3) i)) ta), (Str.ofString "sent", .str (Tx (snU (itsOf ds bare (st + tu)) i)) ts), (Str.ofString "runs", .ref Dl), (Str.ofString "ring", .ref rx), (Str.ofString "number", .int (n : Int) u2), (Str.ofString "total", .int (t : Int) u1), (Str.ofString "heaps", .ref D)]) F_2 N_2 nd_2
    refine useF [Str.ofString "bare", Str.ofString "i"] [(Str.ofString "here", .ref xh), (Str.ofString "ahead", .ref xa), (Str.ofString "kind", .int (kd : Int) uk), (Str.ofString "step", .int (st : Int) u0), (Str.ofString "turn", .int (tu : Int) u4), (Str.ofString "text", .str (Tx (txU (itsOf ds bare (st + tu)) (st + tu / 3) i)) ta), (Str.ofString "sent", .str (Tx (snU (itsOf ds bare (st + tu)) i)) ts), (Str.ofString "runs", .ref Dl), (Str.ofString "ring", .ref rx), (Str.ofString "number", .int (n : Int) u2), (Str.ofString "total", .int (t : Int) u1), (Str.ofString "heaps", .ref D)] (fun m => seg_x3 (m := m) (U := wsT w xh dh ++ (wsT w xa da ++ ((L' + 5, c5) :: ((D5, W.listOf rv.toArray n5) :: ((I, oI) :: ((L' + 4, c4) :: ((L' + 7, c7) :: ((D7, W.listOf gv.toArray n7) :: ((U)))))))))) (by lia : (0 + (i : Int) * 1) = (i : Int)) (by lia : i ≤ 6) ht1 ht6 hll hjj hline d6) X Tp sb_2 (fun _ => ⟨rfl, rfl, trivial⟩) (x9_tk3 (wsT w xh dh) (wsT w xa da) (L' + 5, c5) (D5, W.listOf rv.toArray n5) (I, oI) (L' + 4, c4) (L' + 6, c6) (L' + 7, c7) (D6, W.listOf lv.toArray n6) (D7, W.listOf gv.toArray n7) (U)) (by rfl) ?_
    intro h_3 tk_3 st_3
    show wpAny _ _ _ _ _ { s with heap := h_3, toks := tk_3 }
    refine useF [Str.ofString "hidden", Str.ofString "i", Str.ofString "step", Str.ofString "turn"] [(Str.ofString "bare", .bool (bare i)), (Str.ofString "here", .ref xh), (Str.ofString "ahead", .ref xa), (Str.ofString "kind", .int (kd : Int) uk), (Str.ofString "text", .str (Tx (txU (itsOf ds bare (st + tu)) (st + tu / 3) i)) ta), (Str.ofString "sent", .str (Tx (snU (itsOf ds bare (st + tu)) i)) ts), (Str.ofString "runs", .ref Dl), (Str.ofString "ring", .ref rx), (Str.ofString "number", .int (n : Int) u2), (Str.ofString "total", .int (t : Int) u1), (Str.ofString "heaps", .ref D)] (fun m => seg_x4 (m := m) (U := (L' + 6, c6) :: ((D6, W.listOf lv.toArray n6) :: (wsT w xh dh ++ (wsT w xa da ++ ((I, oI) :: ((L' + 4, c4) :: ((L' + 7, c7) :: ((D7, W.listOf gv.toArray n7) :: ((U)))))))))) (by lia : (0 + (i : Int) * 1) = (i : Int)) (by lia : i ≤ 6) hd6 hrow d5) X Tp st_3 (fun _ => ⟨rfl, rfl, rfl, trivial⟩) (x9_tk4 (L' + 6, c6) (D6, W.listOf lv.toArray n6) (wsT w xh dh) (wsT w xa da) (L' + 5, c5) (D5, W.listOf rv.toArray n5) (I, oI) (L' + 4, c4) (L' + 7, c7) (D7, W.listOf gv.toArray n7) (U)) (by rfl) ?_
    intro th h_4 tk_4 st_4
    show wpAny _ _ _ _ _ { s with heap := h_4, toks := tk_4 }
    refine useF [Str.ofString "bare", Str.ofString "i"] [(Str.ofString "hidden", .str (Tx (hidL ((i + st + tu) % 3) (dots (ds.getD i 0)))) th), (Str.ofString "step", .int (st : Int) u0), (Str.ofString "turn", .int (tu : Int) u4), (Str.ofString "here", .ref xh), (Str.ofString "ahead", .ref xa), (Str.ofString "kind", .int (kd : Int) uk), (Str.ofString "text", .str (Tx (txU (itsOf ds bare (st + tu)) (st + tu / 3) i)) ta), (Str.ofString "sent", .str (Tx (snU (itsOf ds bare (st + tu)) i)) ts), (Str.ofString "runs", .ref Dl), (Str.ofString "ring", .ref rx), (Str.ofString "number", .int (n : Int) u2), (Str.ofString "total", .int (t : Int) u1), (Str.ofString "heaps", .ref D)] (fun m => seg_x5 (m := m) (U := (L' + 6, c6) :: ((D6, W.listOf lv.toArray n6) :: (wsT w xh dh ++ (wsT w xa da ++ ((I, oI) :: ((L' + 4, c4) :: ((U)))))))) (by lia : (0 + (i : Int) * 1) = (i : Int)) (by lia : i ≤ 6) d7 (by lia) hd6 hrow d5) X Tp st_4 (fun _ => ⟨rfl, rfl, trivial⟩) (x9_tk5 (L' + 5, c5) (D5, W.listOf rv.toArray n5) (L' + 6, c6) (D6, W.listOf lv.toArray n6) (wsT w xh dh) (wsT w xa da) (I, oI) (L' + 4, c4) (L' + 7, c7) (D7, W.listOf gv.toArray n7) (U)) (by rfl) ?_
    intro tg h_5 tk_5 st_5
    show wpAny _ _ _ _ _ { s with heap := h_5, toks := tk_5 }
    refine useF [Str.ofString "text", Str.ofString "bare", Str.ofString "hidden", Str.ofString "i", Str.ofString "step", Str.ofString "turn"] [(Str.ofString "here", .ref xh), (Str.ofString "ahead", .ref xa), (Str.ofString "kind", .int (kd : Int) uk), (Str.ofString "sent", .str (Tx (snU (itsOf ds bare (st + tu)) i)) ts), (Str.ofString "runs", .ref Dl), (Str.ofString "ring", .ref rx), (Str.ofString "number", .int (n : Int) u2), (Str.ofString "total", .int (t : Int) u1), (Str.ofString "heaps", .ref D)] (fun m => seg_x6 (m := m) (U := (L' + 7, c7) :: ((D7, W.listOf (gv ++ [Value.str (Tx (if bare i then 46 :: dots (ds.getD i 0) else dots (ds.getD i 0))) tg]).toArray (n7 + 1)) :: ((L' + 6, c6) :: ((D6, W.listOf lv.toArray n6) :: (wsT w xh dh ++ (wsT w xa da ++ ((I, oI) :: ((L' + 4, c4) :: ((U)))))))))) (by lia : (0 + (i : Int) * 1) = (i : Int)) (by lia : i ≤ 6) (by lia) hhl hd6 hrow d5) X Tp st_5 (fun _ => ⟨rfl, rfl, rfl, rfl, rfl, rfl, trivial⟩) (x9_tk6 (L' + 5, c5) (D5, W.listOf rv.toArray n5) (L' + 7, c7) (D7, W.listOf (gv ++ [Value.str (Tx (if bare i then 46 :: dots (ds.getD i 0) else dots (ds.getD i 0))) tg]).toArray (n7 + 1)) (L' + 6, c6) (D6, W.listOf lv.toArray n6) (wsT w xh dh) (wsT w xa da) (I, oI) (L' + 4, c4) (U)) (by rfl) ?_
    intro tt h_6 tk_6 st_6
    show wpAny _ _ _ _ _ { s with heap := h_6, toks := tk_6 }
    refine useF [Str.ofString "sent", Str.ofString "bare", Str.ofString "hidden", Str.ofString "i"] [(Str.ofString "text", .str (Tx (txU (itsOf ds bare (st + tu)) (st + tu / 3) i ++ ((if bare i then dots (ds.getD i 0) else hidL ((i + st + tu) % 3) (dots (ds.getD i 0))) ++ eol ((i + st + tu / 3) % 3)))) tt), (Str.ofString "step", .int (st : Int) u0), (Str.ofString "turn", .int (tu : Int) u4), (Str.ofString "here", .ref xh), (Str.ofString "ahead", .ref xa), (Str.ofString "kind", .int (kd : Int) uk), (Str.ofString "runs", .ref Dl), (Str.ofString "ring", .ref rx), (Str.ofString "number", .int (n : Int) u2), (Str.ofString "total", .int (t : Int) u1), (Str.ofString "heaps", .ref D)] (fun m => seg_x7 (m := m) (U := (L' + 5, c5) :: ((D5, W.listOf rv.toArray n5) :: ((L' + 6, c6) :: ((D6, W.listOf lv.toArray n6) :: (wsT w xh dh ++ (wsT w xa da ++ ((I, oI) :: ((L' + 4, c4) :: ((U)))))))))) (by lia : (0 + (i : Int) * 1) = (i : Int)) (by lia : i ≤ 6) (by lia) hhl hgl2 (hgi _) d7) X Tp st_6 (fun _ => ⟨rfl, rfl, rfl, rfl, trivial⟩) (x9_tk7 (L' + 5, c5) (D5, W.listOf rv.toArray n5) (L' + 7, c7) (D7, W.listOf (gv ++ [Value.str (Tx (if bare i then 46 :: dots (ds.getD i 0) else dots (ds.getD i 0))) tg]).toArray (n7 + 1)) (L' + 6, c6) (D6, W.listOf lv.toArray n6) (wsT w xh dh) (wsT w xa da) (I, oI) (L' + 4, c4) (U)) (by rfl) ?_
    intro tt2 h_7 tk_7 st_7
    show wpAny _ _ _ _ _ { s with heap := h_7, toks := tk_7 }
    refine useF [Str.ofString "ahead", Str.ofString "here"] [(Str.ofString "sent", .str (Tx (snU (itsOf ds bare (st + tu)) i ++ ((if bare i then (if bare i then 46 :: dots (ds.getD i 0) else dots (ds.getD i 0)) else hidL ((i + st + tu) % 3) (dots (ds.getD i 0))) ++ [13, 10]))) tt2), (Str.ofString "bare", .bool (bare i)), (Str.ofString "hidden", .str (Tx (hidL ((i + st + tu) % 3) (dots (ds.getD i 0)))) th), (Str.ofString "i", .int (0 + (i : Int) * 1) t_), (Str.ofString "text", .str (Tx (txU (itsOf ds bare (st + tu)) (st + tu / 3) i ++ ((if bare i then dots (ds.getD i 0) else hidL ((i + st + tu) % 3) (dots (ds.getD i 0))) ++ eol ((i + st + tu / 3) % 3)))) tt), (Str.ofString "step", .int (st : Int) u0), (Str.ofString "turn", .int (tu : Int) u4), (Str.ofString "kind", .int (kd : Int) uk), (Str.ofString "runs", .ref Dl), (Str.ofString "ring", .ref rx), (Str.ofString "number", .int (n : Int) u2), (Str.ofString "total", .int (t : Int) u1), (Str.ofString "heaps", .ref D)] (fun m => seg_x8 (m := m) (U := (L' + 7, c7) :: ((D7, W.listOf (gv ++ [Value.str (Tx (if bare i then 46 :: dots (ds.getD i 0) else dots (ds.getD i 0))) tg]).toArray (n7 + 1)) :: ((L' + 5, c5) :: ((D5, W.listOf rv.toArray n5) :: ((L' + 6, c6) :: ((D6, W.listOf lv.toArray n6) :: (wsT w xh dh ++ (wsT w xa da ++ ((I, oI) :: ((L' + 4, c4) :: ((U)))))))))))) ) X Tp st_7 (fun _ => ⟨rfl, trivial⟩) (x9_tk6 (L' + 7, c7) (D7, W.listOf (gv ++ [Value.str (Tx (if bare i then 46 :: dots (ds.getD i 0) else dots (ds.getD i 0))) tg]).toArray (n7 + 1)) (L' + 5, c5) (D5, W.listOf rv.toArray n5) (L' + 6, c6) (D6, W.listOf lv.toArray n6) (wsT w xh dh) (wsT w xa da) (I, oI) (L' + 4, c4) (U)) (by rfl) ?_
    intro h_8 tk_8 st_8
    show wpAny _ _ _ _ _ { s with heap := h_8, toks := tk_8 }
    obtain ⟨⟨m_8, F_8⟩, N_8, nd_8⟩ := st_8
    obtain ⟨N_9, nd_9⟩ := take2 N_8 nd_8 (x9_tk9 (L' + 7, c7) (D7, W.listOf (gv ++ [Value.str (Tx (if bare i then 46 :: dots (ds.getD i 0) else dots (ds.getD i 0))) tg]).toArray (n7 + 1)) (L' + 5, c5) (D5, W.listOf rv.toArray n5) (L' + 6, c6) (D6, W.listOf lv.toArray n6) (wsT w xh dh) (wsT w xa da) (I, oI) (L' + 4, c4) (U))
    have e1 := tx_step (bare := bare) (w := st + tu) (e := st + tu / 3) hil
    have e2 := sn_step (bare := bare) (w := st + tu) hil
    rw [← Nat.add_assoc i st tu] at e1 e2
    rw [← Nat.add_assoc i st (tu / 3)] at e1
    rw [e1, e2] at F_8
    refine wpAny_execs_nil ?_
    refine' turn_next (rest := []) (J := JX w L' D Dl D5 D6 D7 rx n t st tu kd ζ.1.2.2.1.2.1 n5 n6 rv lv ds bare u0 u1 u2 u4 uk c4 c5 c6 c7 U (i + 1)) F_8 N_9 nd_9 ([(Str.ofString "ahead", .ref xh), (Str.ofString "text", .str (Tx (txU (itsOf ds bare (st + tu)) (st + tu / 3) (i + 1))) tt), (Str.ofString "sent", .str (Tx (snU (itsOf ds bare (st + tu)) (i + 1))) tt2), (Str.ofString "kind", .int (kd : Int) uk), (Str.ofString "step", .int (st : Int) u0), (Str.ofString "turn", .int (tu : Int) u4), (Str.ofString "runs", .ref Dl), (Str.ofString "ring", .ref rx), (Str.ofString "number", .int (n : Int) u2), (Str.ofString "total", .int (t : Int) u1), (Str.ofString "heaps", .ref D)]) (wsT w xh dh ++ ((L' + 4, c4) :: ((L' + 5, c5) :: ((L' + 6, c6) :: ((L' + 7, c7) :: ((D5, W.listOf rv.toArray n5) :: ((D6, W.listOf lv.toArray n6) :: ((D7, W.listOf (gv ++ [Value.str (Tx (if bare i then 46 :: dots (ds.getD i 0) else dots (ds.getD i 0))) tg]).toArray (n7 + 1)) :: ((U)))))))))) ?j ?l ?t
    case j => exact ⟨xh, dh, oh, n7 + 1, tt, tt2, _, hoh, by rw [if_neg (Nat.succ_ne_zero i)]; exact hdh, gv_next hgv (its_at hil) (tok_step ds bare (st + tu) i), rfl, rfl⟩
    case l => walk_at "m loc"
    case t => exact TakeAll.whole
  · intro m V T h₁ tk₁ E' j F₁ N₁ nd₁
    obtain ⟨xa, da, o, n7, ta, ts, gv, ho, hda, hgv, rfl, rfl⟩ := j
    walk_at "m go"
    try dsimp only
    refine' seg_end (kk _ _ (k _ _ ⟨xa, da, o, n7, ta, ts, gv, ho, hda, hgv, rfl, rfl⟩)) (rs := []) ‹_› ‹_› (by k_dflt assumption) ?l2 ?t2
    case l2 => walk_at "m loc"
    case t2 => exact TakeAll.whole
end E_seg_x9
end
theorem seg_x9 : ∀ {w g s p loose mean mg mb L' Q E m rest D Dl D5 D6 D7 rx xa da n t st tu kd wd hi o n5 n6 n7 rv lv ds bare u0 u1 u2 u4 u6 uk ta ts U c4 c5 c6 c7}, E_seg_x9.P w g s p loose mean mg mb L' Q E m rest D Dl D5 D6 D7 rx xa da n t st tu kd wd hi o n5 n6 n7 rv lv ds bare u0 u1 u2 u4 u6 uk ta ts U c4 c5 c6 c7 := fun {w g s p loose mean mg mb L' Q E m rest D Dl D5 D6 D7 rx xa da n t st tu kd wd hi o n5 n6 n7 rv lv ds bare u0 u1 u2 u4 u6 uk ta ts U c4 c5 c6 c7} => by with_unfolding_all exact pk (c := E_seg_x9.ζ) rfl E_seg_x9.core ((((((w, g), (s, p)), ((loose, mean), (mg, mb))), (((L', Q), (E, m)), ((rest, D), (Dl, D5)))), ((((D6, D7), (rx, xa)), ((da, n), (t, st))), (((tu, kd), (wd, hi)), ((o, n5), (n6, n7))))), (((((rv, lv), (ds, bare)), ((u0, u1), (u2, u4))), (((u6, uk), (ta, ts)), ((U, c4), (c5, c6)))), c7))
end
section
noncomputable section
namespace E_seg_b11
def P (w : World) (g : Heap) (s : Shared) (p : Program) (loose : List Str) (mean : EoV) (mg mb : SoV) (L' : Addr) (Q : FsP) (E : VsP) (m : SoV) (rest : List Stmt) (U : Led) (tx : List Nat) (ta ts : Tok) : Prop := ∀ {sn : List Nat}, (quoteL tx = sn) → (tx.length ≤ 1000) → SegFS w g s p loose mean mg mb L' Q E m rest (lawRun 11 1 (blockOf 12 lawBody) rest) [(Str.ofString "text", .str (Tx tx) ta), (Str.ofString "sent", .str (Tx sn) ts)] (U) [] (fun K => K [(Str.ofString "text", .str (Tx tx) ta), (Str.ofString "sent", .str (Tx sn) ts)] (U))
@[irreducible] def ζ := upick (by walk_at "m ne") ((ucat un16 un1) P)
@[irreducible] def w := ζ.1.1.1.1.1
@[irreducible] def g := ζ.1.1.1.1.2
@[irreducible] def s := ζ.1.1.1.2.1
@[irreducible] def L' := ζ.1.2.1.1.1
@[irreducible] def Q := ζ.1.2.1.1.2
@[irreducible] def E := ζ.1.2.1.2.1
@[irreducible] def m := ζ.1.2.1.2.2
@[irreducible] def rest := ζ.1.2.2.1.1
theorem core : P w g s ζ.1.1.1.2.2 ζ.1.1.2.1.1 ζ.1.1.2.1.2 ζ.1.1.2.2.1 ζ.1.1.2.2.2 L' Q E m rest ζ.1.2.2.1.2 ζ.1.2.2.2.1 ζ.1.2.2.2.2 ζ.2 := by
  intro sn hq hln X Tp F N ND K kk k
  revert X; k_fill; intro X
  show wpAny _ _ (execs (_ :: rest) _) _ _ _
  dsimp only [lawEnv, List.map] at *
  subst hq
  walk_at "m go"
  · exfalso
    rename (_ = true) => he
    simp at he
  · dsimp only
    refine' segF_end (kk _ _ (k)) (rs := ?rs3) ‹_› ‹_› (by k_dflt assumption) ?l ?fr ?t
    case l => walk_at "m loc"
    case fr => walk_at "m fr"
    case t => walk_at "m take"
end E_seg_b11
end
theorem seg_b11 : ∀ {w g s p loose mean mg mb L' Q E m rest U tx ta ts}, E_seg_b11.P w g s p loose mean mg mb L' Q E m rest U tx ta ts := fun {w g s p loose mean mg mb L' Q E m rest U tx ta ts} => by with_unfolding_all exact pk (c := E_seg_b11.ζ) rfl E_seg_b11.core (((((w, g), (s, p)), ((loose, mean), (mg, mb))), (((L', Q), (E, m)), ((rest, U), (tx, ta)))), ts)
end
section
noncomputable section
namespace E_seg_b12
def P (w : World) (g : Heap) (s : Shared) (p : Program) (loose : List Str) (mean : EoV) (mg mb : SoV) (L' : Addr) (Q : FsP) (E : VsP) (m : SoV) (rest : List Stmt) (U : Led) (tb : Tb) (sn : List Nat) (ts : Tok) (c8 : Obj) (x8 : Option Value) : Prop := (∀ c ∈ sn, c < 128) → (sn.length ≤ 1000) → (TbOk tb) → (c8.data = .cell x8) → SegFS w g s p loose mean mg mb L' Q E m rest (lawRun 12 1 (blockOf 12 lawBody) rest) [(Str.ofString "sent", .str (Tx sn) ts)] (tbT tb ++ ((L' + 8, c8) :: U)) [] (fun K => ∀ (dd : Hd) (ee : St) (c8' : Obj), c8'.data = .cell (some (.ref dd.x)) → dd.fp = ee.f1 → dd.ln = 1 → dd.vs = [] → StOk w ee tb sn → K [(Str.ofString "sent", .str (Tx sn) ts)] (hdT w dd ++ (stT ee ++ (tbT tb ++ ((L' + 8, c8') :: U)))))
@[irreducible] def ζ := upick (by walk_at "m ne") ((ucat un16 (ucat un2 un1)) P)
@[irreducible] def w := ζ.1.1.1.1.1
@[irreducible] def g := ζ.1.1.1.1.2
@[irreducible] def s := ζ.1.1.1.2.1
@[irreducible] def L' := ζ.1.2.1.1.1
@[irreducible] def Q := ζ.1.2.1.1.2
@[irreducible] def E := ζ.1.2.1.2.1
@[irreducible] def m := ζ.1.2.1.2.2
@[irreducible] def rest := ζ.1.2.2.1.1
theorem core : P w g s ζ.1.1.1.2.2 ζ.1.1.2.1.1 ζ.1.1.2.1.2 ζ.1.1.2.2.1 ζ.1.1.2.2.2 L' Q E m rest ζ.1.2.2.1.2 ζ.1.2.2.2.1 ζ.1.2.2.2.2 ζ.2.1.1 ζ.2.1.2 ζ.2.2 := by
  intro h128 hln htb d8 X Tp F N ND K kk k
  revert X; k_fill; intro X
  show wpAny _ _ (execs (_ :: rest) _) _ _ _
  dsimp only [lawEnv, List.map] at *
  dsimp only [tbT, List.cons_append, List.nil_append] at *
  walk_at "m go"
  refine' call_spec (sp_lexer2 ζ.1.2.2.2.2 _ h128 hln ζ.1.2.2.2.1 htb) ?F ?X ?Tp ?N ?nd ?tk ?hA ?_
  case F => k_asm
  case X => k_asm
  case Tp => k_asm
  case N => k_asm
  case tk => walk_at "m take"
  case nd => k_dflt assumption
  case hA => exact ale_lv (by rfl) (Nat.le_of_ble_eq_true rfl) (Nat.le_of_ble_eq_true rfl)
  k_whole
  intro v' T' h' tk' hP F' N' hND
  obtain ⟨dd, ee, hv, hT, q1, q2, q3, q4⟩ := hP
  subst hv
  subst hT
  dsimp only [hdT, wsT, List.cons_append, List.nil_append] at N' hND ⊢
  walk_at "m go"
  try dsimp only
  refine' segF_end (kk _ _ (k dd ee _ ‹_› q1 q2 q3 q4)) (rs := ?rs3) ‹_› ‹_› (by k_dflt assumption) ?l ?fr ?t
  case l => walk_at "m loc"
  case fr => walk_at "m fr"
  case t => (try dsimp only [hdT, stT, tbT, List.cons_append, List.nil_append]); walk_at "m take"
end E_seg_b12
end
theorem seg_b12 : ∀ {w g s p loose mean mg mb L' Q E m rest U tb sn ts c8 x8}, E_seg_b12.P w g s p loose mean mg mb L' Q E m rest U tb sn ts c8 x8 := fun {w g s p loose mean mg mb L' Q E m rest U tb sn ts c8 x8} => by with_unfolding_all exact pk (c := E_seg_b12.ζ) rfl E_seg_b12.core (((((w, g), (s, p)), ((loose, mean), (mg, mb))), (((L', Q), (E, m)), ((rest, U), (tb, sn)))), ((ts, c8), x8))
end
section
inductive JH (w : World) (L' : Addr) (dd : Hd) (tb : Tb) (R tk : Nat → List Nat) (c8 c4 : Obj) (U : List (Addr × Obj)) (k : Nat) (ys : List Value) (T : List (Addr × Obj)) : Prop
  | mk (dk : Hd) (ek : St) (hs : List HT) (q0 : dk.x = dd.x) (q1 : dk.fp = ek.f1) (q2 : dk.ln = (if k = 0 then 1 else (k : Int))) (q3 : dk.vs = []) (q4 : StOk w ek tb (R k)) (q5 : ys = hearV hs) (q6 : hearD hs = ((List.range k).map fun i => (tk i, i + 1))) (q7 : T = hdT w dk ++ (stT ek ++ (tbT tb ++ ((L' + 8, c8) :: (L' + 4, c4) :: (hearT hs ++ U))))) : JH w L' dd tb R tk c8 c4 U k ys T
noncomputable section
namespace E_seg_b13
def P (w : World) (g : Heap) (s : Shared) (p : Program) (loose : List Str) (mean : EoV) (mg mb : SoV) (L' : Addr) (Q : FsP) (E : VsP) (m : SoV) (rest : List Stmt) (U : Led) (dd : Hd) (ee : St) (tb : Tb) (hi : Nat) (u6 : Tok) (R tk : Nat → List Nat) (c8 c4 : Obj) : Prop := (hi ≤ 6) → (dd.fp = ee.f1) → (dd.ln = 1) → (dd.vs = []) → (StOk w ee tb (R 0)) → (∀ k ≤ hi, ∃ W tl, R k = W ++ tl ∧ (∀ c ∈ W, isW c = true) ∧ Tail tl (tk k) (R (k + 1)) ∧ (∀ c ∈ W ++ tl, c < 128) ∧ (W ++ tl).length ≤ 1000 ∧ nl W = if k = 0 then 0 else 1) → (c8.data = .cell (some (.ref dd.x))) → (c4.data = .cell (some (.int (hi : Int) u6))) → SegFS w g s p loose mean mg mb L' Q E m rest (lawRun 13 1 (blockOf 12 lawBody) rest) [] (hdT w dd ++ (stT ee ++ (tbT tb ++ ((L' + 8, c8) :: (L' + 4, c4) :: U)))) [Str.ofString "heard"] (fun K => ∀ (Dh : Addr) (hs : List HT), hearD hs = ((List.range (hi + 1)).map fun i => (tk i, i + 1)) → K [(Str.ofString "heard", .ref Dh)] ((Dh, lst (hearV hs)) :: (tbT tb ++ ((L' + 8, c8) :: (L' + 4, c4) :: (hearT hs ++ U)))))
@[irreducible] def ζ := upick (by walk_at "m ne") ((ucat un16 (ucat un4 (ucat un2 un1))) P)
@[irreducible] def w := ζ.1.1.1.1.1
@[irreducible] def g := ζ.1.1.1.1.2
@[irreducible] def s := ζ.1.1.1.2.1
@[irreducible] def L' := ζ.1.2.1.1.1
@[irreducible] def Q := ζ.1.2.1.1.2
@[irreducible] def E := ζ.1.2.1.2.1
@[irreducible] def m := ζ.1.2.1.2.2
@[irreducible] def rest := ζ.1.2.2.1.1
@[irreducible] def dd := ζ.1.2.2.2.1
@[irreducible] def ee := ζ.1.2.2.2.2
@[irreducible] def tk := ζ.2.2.1.1
theorem core : P w g s ζ.1.1.1.2.2 ζ.1.1.2.1.1 ζ.1.1.2.1.2 ζ.1.1.2.2.1 ζ.1.1.2.2.2 L' Q E m rest ζ.1.2.2.1.2 dd ee ζ.2.1.1.1 ζ.2.1.1.2 ζ.2.1.2.1 ζ.2.1.2.2 tk ζ.2.2.1.2 ζ.2.2.2 := by
  intro hh hfp hln hvs so hR d8 d4 X Tp F N ND K kk k
  revert X; k_fill; intro X
  show wpAny _ _ (execs (_ :: rest) _) _ _ _
  dsimp only [lawEnv, List.map] at *
  walk_at "m go"
  unfold Halt
  refine comp_range (n := ζ.2.1.1.2 + 1) (J := JH w L' dd ζ.2.1.1.1 ζ.2.1.2.2 tk ζ.2.2.1.2 ζ.2.2.2 ζ.1.2.2.1.2) (by rfl) ‹_› ‹_› (by k_dflt assumption) ‹_› (rg_small (by lia) (by lia) (by lia) (by lia)) (rg_size (by split <;> lia)) (by lia) ⟨dd, ee, [], rfl, hfp, hln, hvs, so, rfl, rfl, rfl⟩ ?_ ?_
  · intro i t_ ys' T I oI C oC D' m₂ h₂ tk₂ E₂ hi' j hC hx F₂ N₂ nd₂
    obtain ⟨dk, se, hs, hdx, hfp, hln, hvs, so, rfl, hd, rfl⟩ := j
    obtain ⟨W, tl, hRi, hW, hTl, hA, hlen, hnl⟩ := hR i (by lia)
    rw [hRi] at so
    rw [← hdx] at d8
    dsimp only [hdT, stT, tbT, List.cons_append, List.nil_append] at F₂ N₂ nd₂ ⊢
    walk_at "m go"
    refine' call_spec (sp_get dk se ζ.2.1.1.1 hfp W tl (tk i) (ζ.2.1.2.2 (i + 1)) hW hTl hA hlen hvs ?g1 ?g2 so) ?F ?X ?Tp ?N ?nd ?tk ?hA ?_
    case g1 => (rw [hln]; split <;> lia)
    case g2 => (rw [hln]; split <;> lia)
    case F => k_asm
    case X => k_asm
    case Tp => k_asm
    case N => k_asm
    case tk => (dsimp only [hdT, stT, List.cons_append, List.nil_append]); walk_at "m take"
    case nd => k_dflt assumption
    case hA => exact ale_lv (by rfl) (Nat.le_of_ble_eq_true rfl) (Nat.le_of_ble_eq_true rfl)
    k_whole
    intro v' T' h' tk' hP F' N' hND
    obtain ⟨k2, ys1, n1, ⟨tv, hv⟩, hT, so2⟩ := hP
    subst hv
    subst hT
    dsimp only [hdT, stT, List.cons_append, List.nil_append] at N' hND ⊢
    walk_at "m go"
    rename (News _ _ _ _) => N'
    rename (Apart _) => hND
    have hln2 : dk.ln + (nl W : Int) = ((i + 1 : Nat) : Int) := by rw [hln, hnl]; split <;> simp_all <;> lia
    rename Addr => aa
    rw [hln2] at N' hND
    try dsimp only
    refine TurnC.mk (rest := []) ‹_› ‹_› (by k_dflt assumption) _ ?tkz ⟨{ dk with ln := ((i + 1 : Nat) : Int), k2 := k2 }, { se with ys := ys1, n := n1 }, (aa, tk i, i + 1, tv, k2) :: hs, hdx, hfp, by rw [if_neg (Nat.succ_ne_zero i)], hvs, so2, (hearV_cons (aa, tk i, i + 1, tv, k2) hs).symm, hearD_next hd rfl rfl, rfl⟩
    case tkz => (dsimp only [hdT, stT, tbT, hearT_cons, List.cons_append, List.nil_append]); walk_at "m take"
  intro gg ys' T j nd D' h₃ tk₃ F₃ N₃ o1
  obtain ⟨dk, se, hs, hdx, hfp, hln, hvs, so, rfl, hd, rfl⟩ := j
  have ND₃ := apart1_of o1 nd
  clear o1 nd
  dsimp only [hdT, stT, tbT, List.cons_append, List.nil_append] at *
  refine' segF_end (kk _ _ (k _ hs hd)) (rs := ?rs3) ‹_› ‹_› (by k_dflt assumption) ?l ?fr ?t
  case l => walk_at "m loc"
  case fr => walk_at "m fr"
  case t => (try dsimp only [hdT, stT, tbT, List.cons_append, List.nil_append]); walk_at "m take"
end E_seg_b13
end
theorem seg_b13 : ∀ {w g s p loose mean mg mb L' Q E m rest U dd ee tb hi u6 R tk c8 c4}, E_seg_b13.P w g s p loose mean mg mb L' Q E m rest U dd ee tb hi u6 R tk c8 c4 := fun {w g s p loose mean mg mb L' Q E m rest U dd ee tb hi u6 R tk c8 c4} => by with_unfolding_all exact pk (c := E_seg_b13.ζ) rfl E_seg_b13.core (((((w, g), (s, p)), ((loose, mean), (mg, mb))), (((L', Q), (E, m)), ((rest, U), (dd, ee)))), (((tb, hi), (u6, R)), ((tk, c8), c4)))
end
section
local macro_rules | `(tactic| walk_at "compareOp NotEq ref ref") => `(tactic| (k_here; refine' halt ?_))
inductive JQ (L' Dh D7 : Addr) (hs : List HT) (nh n7 : Nat) (gv : List Value) (tk : Nat → List Nat) (c7 c4 : Obj) (U : List (Addr × Obj)) (k : Nat) (ys : List Value) (T : List (Addr × Obj)) : Prop
  | mk (U' : List (Addr × Obj)) (q0 : ys.length = k) (q1 : RdA U' ys (((List.range k).map fun i => (tk i, i + 1)).map tupD)) (q2 : T = (Dh, W.listOf (hearV hs).toArray nh) :: (L' + 7, c7) :: (D7, W.listOf gv.toArray n7) :: (L' + 4, c4) :: (U' ++ (hearT hs ++ U))) : JQ L' Dh D7 hs nh n7 gv tk c7 c4 U k ys T
noncomputable section
namespace E_seg_b14
def P (w : World) (g : Heap) (s : Shared) (p : Program) (loose : List Str) (mean : EoV) (mg mb : SoV) (L' : Addr) (Q : FsP) (E : VsP) (m : SoV) (rest : List Stmt) (U : Led) (hs : List HT) (Dh D7 : Addr) (nh n7 hi : Nat) (gv : List Value) (u6 : Tok) (tk : Nat → List Nat) (c7 c4 : Obj) : Prop := (hi ≤ 6) → (hearD hs = (List.range (hi + 1)).map fun i => (tk i, i + 1)) → (TxsAre gv ((List.range hi).map tk)) → (tk hi = []) → (∀ k, ∀ c ∈ tk k, c < 128) → (c7.data = .cell (some (.ref D7))) → (c4.data = .cell (some (.int (hi : Int) u6))) → SegFS w g s p loose mean mg mb L' Q E m rest (lawRun 14 1 (blockOf 12 lawBody) rest) [(Str.ofString "heard", .ref Dh)] ((Dh, W.listOf (hearV hs).toArray nh) :: (L' + 7, c7) :: (D7, W.listOf gv.toArray n7) :: (L' + 4, c4) :: (hearT hs ++ U)) [] (fun K => K [(Str.ofString "heard", .ref Dh)] ((Dh, W.listOf (hearV hs).toArray nh) :: (L' + 7, c7) :: (D7, W.listOf gv.toArray n7) :: (L' + 4, c4) :: (hearT hs ++ U)))
@[irreducible] def ζ := upick (by walk_at "m ne") ((ucat un16 (ucat un8 un1)) P)
@[irreducible] def w := ζ.1.1.1.1.1
@[irreducible] def g := ζ.1.1.1.1.2
@[irreducible] def s := ζ.1.1.1.2.1
@[irreducible] def p := ζ.1.1.1.2.2
@[irreducible] def L' := ζ.1.2.1.1.1
@[irreducible] def Q := ζ.1.2.1.1.2
@[irreducible] def E := ζ.1.2.1.2.1
@[irreducible] def m := ζ.1.2.1.2.2
@[irreducible] def rest := ζ.1.2.2.1.1
@[irreducible] def hs := ζ.1.2.2.2.1
@[irreducible] def hi := ζ.2.1.1.2.2
@[irreducible] def tk := ζ.2.1.2.2.1
theorem core : P w g s p ζ.1.1.2.1.1 ζ.1.1.2.1.2 ζ.1.1.2.2.1 ζ.1.1.2.2.2 L' Q E m rest ζ.1.2.2.1.2 hs ζ.1.2.2.2.2 ζ.2.1.1.1.1 ζ.2.1.1.1.2 ζ.2.1.1.2.1 hi ζ.2.1.2.1.1 ζ.2.1.2.1.2 tk ζ.2.1.2.2.2 ζ.2.2 := by
  intro hh hdd hgv hlast h128 d7 d4 X Tp F N ND K kk k
  revert X; k_fill; intro X
  show wpAny _ _ (execs (_ :: rest) _) _ _ _
  dsimp only [lawEnv, List.map] at *
  walk_at "m go"
  unfold Halt
  refine comp_range (n := hi) (J := JQ L' ζ.1.2.2.2.2 ζ.2.1.1.1.1 hs ζ.2.1.1.1.2 ζ.2.1.1.2.1 ζ.2.1.2.1.1 tk ζ.2.1.2.2.2 ζ.2.2 ζ.1.2.2.1.2) (by rfl) ‹_› ‹_› (by k_dflt assumption) ‹_› (rg_small (by lia) (by lia) (by lia) (by lia)) (rg_size (by split <;> lia)) (by lia) ⟨[], rfl, RdA.nil, rfl⟩ ?_ ?_
  · intro i t_ ys' T I oI C oC D' m₂ h₂ tk₂ E₂ hi' j hC hx F₂ N₂ nd₂
    obtain ⟨U', hyl, hr, rfl⟩ := j
    obtain ⟨tr, hrow⟩ := txs_get hgv (i := i) (l := tk i) (by rw [List.getElem?_map, List.getElem?_range hi']; rfl)
    dsimp only at F₂ N₂ nd₂ ⊢
    walk_at "m go"
    try dsimp only
    rename Addr => aa
    refine' TurnC.mk (rest := []) ‹_› ‹_› (by k_dflt assumption) _ ?tkz ⟨_ :: U', ?ln, ?rd, rfl⟩
    case tkz => (dsimp only [List.cons_append, List.nil_append]); walk_at "m take"
    case ln => simp [hyl]
    case rd =>
      rw [List.range_succ, List.map_append, List.map_append]
      exact RdA.snoc (hr.mono fun p hp => List.mem_cons_of_mem _ hp) (rd_tup (by lia) List.mem_cons_self)
  intro gg ys' T j nd D' h₃ tk₃ F₃ N₃ o1
  obtain ⟨U', hyl, hr, rfl⟩ := j
  have ND₃ := apart1_of o1 nd
  clear o1 nd
  dsimp only [List.cons_append, List.nil_append] at *
  walk_at "m go"
  unfold Halt
  have hall : ((List.range hi).map fun i => (tk i, i + 1)).map tupD ++ [tupD ([], hi + 1)] = ((List.range (hi + 1)).map fun i => (tk i, i + 1)).map tupD := by
    rw [List.range_succ, List.map_append, List.map_append, List.map_cons, List.map_cons, List.map_nil, List.map_nil, hlast]
  have heq := eqv_tups ((List.range (hi + 1)).map fun i => (tk i, i + 1))
  have hsh : Sh 3 (.list (((List.range (hi + 1)).map fun i => (tk i, i + 1)).map tupD)) := sh_tups fun p hp => by
    obtain ⟨k, _, rfl⟩ := List.mem_map.mp hp
    exact h128 k
  have hra := fun (led : List (Addr × Obj)) (h : ∀ p ∈ hearT hs, p ∈ led) => hear_rd h
  rw [hdd] at hra
  generalize ((List.range (hi + 1)).map fun i => (tk i, i + 1)).map tupD = dsz at hall heq hsh hra
  refine' ne_rd (led := ?led) (da := .list dsz) (db := .list dsz) ?N ?ra ?rb hsh hsh ?hu ?_
  case N => k_asm
  case ra => exact Rd.list (by k_mem) (hra _ fun p hp => by simp only [List.mem_cons, List.mem_append, hp, true_or, or_true])
  case rb => exact Rd.list (by k_mem) (by rw [← hall]; exact RdA.snoc (hr.mono fun p hp => by simp only [List.mem_cons, List.mem_append, hp, true_or, or_true]) (rd_tup (l := []) rfl (by rw [← of_nil]; k_mem)))
  case hu => ke_room
  k_whole
  rw [heq]
  walk_at "m go"
  try dsimp only
  refine' segF_end (kk _ _ (k)) (rs := ?rs3) ‹_› ‹_› (by k_dflt assumption) ?l ?fr ?t
  case l => walk_at "m loc"
  case fr => walk_at "m fr"
  case t => walk_at "m take"
end E_seg_b14
end
theorem seg_b14 : ∀ {w g s p loose mean mg mb L' Q E m rest U hs Dh D7 nh n7 hi gv u6 tk c7 c4}, E_seg_b14.P w g s p loose mean mg mb L' Q E m rest U hs Dh D7 nh n7 hi gv u6 tk c7 c4 := fun {w g s p loose mean mg mb L' Q E m rest U hs Dh D7 nh n7 hi gv u6 tk c7 c4} => by with_unfolding_all exact pk (c := E_seg_b14.ζ) rfl E_seg_b14.core (((((w, g), (s, p)), ((loose, mean), (mg, mb))), (((L', Q), (E, m)), ((rest, U), (hs, Dh)))), ((((D7, nh), (n7, hi)), ((gv, u6), (tk, c7))), c4))
end
section
noncomputable section
namespace E_seg_b15
def P (w : World) (g : Heap) (s : Shared) (p : Program) (loose : List Str) (mean : EoV) (mg mb : SoV) (L' : Addr) (Q : FsP) (E : VsP) (m : SoV) (rest : List Stmt) (U : Led) (D5 : Addr) (n5 : Nat) (rv : List Value) (ds : List Nat) (c5 c9 : Obj) (x9 : Option Value) : Prop := (ds.length ≤ 6) → (∀ d ∈ ds, d ≤ 6) → (TxsAre rv (ds.map dots)) → (c5.data = .cell (some (.ref D5))) → (c9.data = .cell x9) → SegFS w g s p loose mean mg mb L' Q E m rest (lawRun 15 1 (blockOf 12 lawBody) rest) [] ((L' + 5, c5) :: (D5, W.listOf rv.toArray n5) :: (L' + 9, c9) :: U) [] (fun K => ∀ (ct : Addr) (cv : List Value) (c9' : Obj), c9'.data = .cell (some (.ref ct)) → IntsAre cv (wsOf (runsL (intsN ds))).cs → K [] ((L' + 5, c5) :: (D5, W.listOf rv.toArray n5) :: (L' + 9, c9') :: (ct, tupOf cv 0) :: U))
@[irreducible] def ζ := upick (by walk_at "m ne") ((ucat un16 (ucat un4 un1)) P)
@[irreducible] def w := ζ.1.1.1.1.1
@[irreducible] def g := ζ.1.1.1.1.2
@[irreducible] def s := ζ.1.1.1.2.1
@[irreducible] def L' := ζ.1.2.1.1.1
@[irreducible] def Q := ζ.1.2.1.1.2
@[irreducible] def E := ζ.1.2.1.2.1
@[irreducible] def m := ζ.1.2.1.2.2
@[irreducible] def rest := ζ.1.2.2.1.1
@[irreducible] def ds := ζ.2.1.1.2
theorem core : P w g s ζ.1.1.1.2.2 ζ.1.1.2.1.1 ζ.1.1.2.1.2 ζ.1.1.2.2.1 ζ.1.1.2.2.2 L' Q E m rest ζ.1.2.2.1.2 ζ.1.2.2.2.1 ζ.1.2.2.2.2 ζ.2.1.1.1 ds ζ.2.1.2.1 ζ.2.1.2.2 ζ.2.2 := by
  intro hdl hdb hrv d5 d9 X Tp F N ND K kk k
  revert X; k_fill; intro X
  show wpAny _ _ (execs (_ :: rest) _) _ _ _
  dsimp only [lawEnv, List.map] at *
  walk_at "m go"
  unfold Halt
  have hrl : ζ.2.1.1.1.length = ds.length := by have := StrsAre.length hrv; rw [this, List.length_map, List.length_map]
  refine comp_list (vs := ζ.2.1.1.1) (c := ζ.1.2.2.2.2) (J := fun i ys T => IntsAre ys ((intsN ds).take i) ∧ T = _) (by rfl) ‹_› ‹_› (by k_dflt assumption) (by lia) ⟨.nil, rfl⟩ (fun i ys T j => by rw [j.2]; k_mem) ?_ ?_
  · intro i v ys T I oI C oC D m₂ h₂ tk₂ E₂ hi hv j hC hx F₂ N₂ nd₂
    obtain ⟨hy, rfl⟩ := j
    have hil : i < ds.length := by lia
    obtain ⟨tr, hrow⟩ := txs_get hrv (i := i) (l := dots ds[i]) (by rw [List.getElem?_map, List.getElem?_eq_getElem hil]; rfl)
    rw [hrow] at hv
    cases hv
    have hL : (Tx (dots ds[i])).length = ds[i] + 1 := by rw [tx_len, dots_len]
    have hd6 := hdb ds[i] (List.getElem_mem hil)
    walk_at "m go"
    try dsimp only
    refine TurnC.mk (rest := ?rs11) ‹_› ‹_› (by k_dflt assumption) _ ?tk ⟨?e, rfl⟩
    case tk => walk_at "m take"
    case e => exact ints_row hil hy (by lia)
  intro gg ys T j nd D h₃ tk₃ F₃ N₃ o1
  obtain ⟨hy, rfl⟩ := j
  have ND₃ := apart1_of o1 nd
  clear o1 nd
  rw [show (intsN ds).take ζ.2.1.1.1.length = intsN ds by rw [List.take_of_length_le]; simp [intsN]; lia] at hy
  dsimp only at *
  have h1 : (intsN ds).length ≤ 20 := by simp [intsN]; lia
  have h2 : ∀ n ∈ intsN ds, n ≤ (1000 : Nat) := ints_le hdb (by decide)
  have h3 : ∀ n ∈ intsN ds, 0 ≤ n := ints_ge ds
  have h4 : (runsL (intsN ds)).length ≤ 200 := by
    have := runs_len (ns := intsN ds) (B := 6) (ints_le hdb (by decide))
    have e : (intsN ds).length = ds.length := by simp [intsN]
    rw [e] at this; lia
  walk_at "m go"
  try dsimp only
  rename Ws => dw
  rename (WsOk _ _) => hdw
  refine' segF_end (kk _ _ (k dw.ct dw.vs _ ‹_› hdw.vs)) (rs := ?rs3) ‹_› ‹_› (by k_dflt assumption) ?l ?fr ?t
  case l => walk_at "m loc"
  case fr => walk_at "m fr"
  case t => walk_at "m take"
end E_seg_b15
end
theorem seg_b15 : ∀ {w g s p loose mean mg mb L' Q E m rest U D5 n5 rv ds c5 c9 x9}, E_seg_b15.P w g s p loose mean mg mb L' Q E m rest U D5 n5 rv ds c5 c9 x9 := fun {w g s p loose mean mg mb L' Q E m rest U D5 n5 rv ds c5 c9 x9} => by with_unfolding_all exact pk (c := E_seg_b15.ζ) rfl E_seg_b15.core (((((w, g), (s, p)), ((loose, mean), (mg, mb))), (((L', Q), (E, m)), ((rest, U), (D5, n5)))), (((rv, ds), (c5, c9)), x9))
end
section
noncomputable section
namespace E_seg_b16
def P (w : World) (g : Heap) (s : Shared) (p : Program) (loose : List Str) (mean : EoV) (mg mb : SoV) (L' : Addr) (Q : FsP) (E : VsP) (m : SoV) (rest : List Stmt) (U : Led) (ct : Addr) (wd : Nat) (u5 : Tok) (cv : List Value) (cs : List Int) (c3 c9 : Obj) : Prop := (wd ≤ 6) → (cs.length ≤ 300) → (IntsAre cv cs) → (c3.data = .cell (some (.int (wd : Int) u5))) → (c9.data = .cell (some (.ref ct))) → SegFS w g s p loose mean mg mb L' Q E m rest (lawRun 16 1 (blockOf 12 lawBody) rest) [] ((L' + 3, c3) :: (L' + 9, c9) :: (ct, tupOf cv 0) :: U) [Str.ofString "lacking"] (fun K => ∀ (Dl : Addr) (lk : List Value), IntsAre lk (intsN (lackW cs wd)) → K [(Str.ofString "lacking", .ref Dl)] ((Dl, lst lk) :: (L' + 3, c3) :: (L' + 9, c9) :: (ct, tupOf cv 0) :: U))
@[irreducible] def ζ := upick (by walk_at "m ne") ((ucat un16 (ucat un4 un1)) P)
@[irreducible] def w := ζ.1.1.1.1.1
@[irreducible] def g := ζ.1.1.1.1.2
@[irreducible] def s := ζ.1.1.1.2.1
@[irreducible] def L' := ζ.1.2.1.1.1
@[irreducible] def Q := ζ.1.2.1.1.2
@[irreducible] def E := ζ.1.2.1.2.1
@[irreducible] def m := ζ.1.2.1.2.2
@[irreducible] def rest := ζ.1.2.2.1.1
theorem core : P w g s ζ.1.1.1.2.2 ζ.1.1.2.1.1 ζ.1.1.2.1.2 ζ.1.1.2.2.1 ζ.1.1.2.2.2 L' Q E m rest ζ.1.2.2.1.2 ζ.1.2.2.2.1 ζ.1.2.2.2.2 ζ.2.1.1.1 ζ.2.1.1.2 ζ.2.1.2.1 ζ.2.1.2.2 ζ.2.2 := by
  intro hw hcl hcv d3 d9 X Tp F N ND K kk k
  revert X; k_fill; intro X
  show wpAny _ _ (execs (_ :: rest) _) _ _ _
  dsimp only [lawEnv, List.map] at *
  have hcl2 := hcv.length
  walk_at "m go"
  unfold Halt
  refine compT_range (n := ζ.1.2.2.2.2) (J := fun k ys T => IntsAre ys (intsN (lackW ζ.2.1.2.1 k)) ∧ T = _) (by rfl) ‹_› ‹_› (by k_dflt assumption) ‹_› (rg_small (by lia) (by lia) (by lia) (by lia)) (rg_size (by split <;> lia)) (by lia) ⟨.nil, rfl⟩ ?_ ?_
  · intro k_ t2_ ys2 T I₂ oI₂ C₂ oC₂ D₂ m₂ h₃ tk₃ E₃ hk j hC hx F₃ N₃ nd₃
    obtain ⟨hy2, rfl⟩ := j
    dsimp only at F₃ N₃ ⊢
    have e0 : (0 + (k_ : Int)).toNat = k_ := by lia
    walk_at "m go"
    · refine TurnC.mk (rest := ?rs11) ‹_› ‹_› (by k_dflt assumption) _ ?tk1 ⟨filt_yes hy2 ((Bool.or_eq_true _ _).mpr (Or.inl (decide_eq_true (by lia)))) (by lia), rfl⟩
      case tk1 => walk_at "m take"
    · refine TurnC.mk (rest := ?rs12) ‹_› ‹_› (by k_dflt assumption) _ ?tk2 ⟨filt_yes hy2 ((Bool.or_eq_true _ _).mpr (Or.inr (decide_eq_true (by rw [← e0]; assumption)))) (by lia), rfl⟩
      case tk2 => walk_at "m take"
    · refine TurnC.mk (rest := ?rs13) ‹_› ‹_› (by k_dflt assumption) _ ?tk3 ⟨filt_no hy2 (Bool.or_eq_false_iff.mpr ⟨decide_eq_false (by lia), decide_eq_false (by rw [← e0]; assumption)⟩), rfl⟩
      case tk3 => walk_at "m take"
  intro gg ys2 T j nd D₃ h₃ tk₃ F₃ N₃ o1
  obtain ⟨hy2, rfl⟩ := j
  have ND₃ := apart1_of o1 nd
  clear o1 nd
  dsimp only at *
  refine' segF_end (kk _ _ (k _ _ hy2)) (rs := ?rs3) ‹_› ‹_› (by k_dflt assumption) ?l ?fr ?t
  case l => walk_at "m loc"
  case fr => walk_at "m fr"
  case t => walk_at "m take"
end E_seg_b16
end
theorem seg_b16 : ∀ {w g s p loose mean mg mb L' Q E m rest U ct wd u5 cv cs c3 c9}, E_seg_b16.P w g s p loose mean mg mb L' Q E m rest U ct wd u5 cv cs c3 c9 := fun {w g s p loose mean mg mb L' Q E m rest U ct wd u5 cv cs c3 c9} => by with_unfolding_all exact pk (c := E_seg_b16.ζ) rfl E_seg_b16.core (((((w, g), (s, p)), ((loose, mean), (mg, mb))), (((L', Q), (E, m)), ((rest, U), (ct, wd)))), (((u5, cv), (cs, c3)), c9))
end
section
noncomputable section
namespace E_seg_b17
def P (w : World) (g : Heap) (s : Shared) (p : Program) (loose : List Str) (mean : EoV) (mg mb : SoV) (L' : Addr) (Q : FsP) (E : VsP) (m : SoV) (rest : List Stmt) (U : Led) (D5 D7 Dl : Addr) (hi n5 n7 nl : Nat) (u6 : Tok) (rv gv lk : List Value) (ds ls : List Nat) (bare : Nat → Bool) (c4 c5 c7 : Obj) : Prop := (hi ≤ 6) → (ls.length ≤ 6) → (∀ l ∈ ls, l ≤ 6) → (∀ i < hi, ∃ t, rv[i]? = some (.str (Tx (dots (ds.getD i 0))) t)) → (∀ i < hi, ∃ t, gv[i]? = some (.str (Tx (if bare i then 46 :: dots (ds.getD i 0) else dots (ds.getD i 0))) t)) → (IntsAre lk (intsN ls)) → (c4.data = .cell (some (.int (hi : Int) u6))) → (c5.data = .cell (some (.ref D5))) → (c7.data = .cell (some (.ref D7))) → SegFS w g s p loose mean mg mb L' Q E m rest (lawRun 17 1 (blockOf 12 lawBody) rest) [(Str.ofString "lacking", .ref Dl)] ((L' + 4, c4) :: (L' + 5, c5) :: (L' + 7, c7) :: (D5, W.listOf rv.toArray n5) :: (D7, W.listOf gv.toArray n7) :: (Dl, W.listOf lk.toArray nl) :: U) [Str.ofString "places"] (fun K => ∀ (Dp : Addr) (pv : List Value), IntsAre pv (intsN ((List.range hi).filter bare ++ ls.map (hi + ·))) → K [(Str.ofString "places", .ref Dp), (Str.ofString "lacking", .ref Dl)] ((Dp, W.listOf pv.toArray 0) :: (L' + 4, c4) :: (L' + 5, c5) :: (L' + 7, c7) :: (D5, W.listOf rv.toArray n5) :: (D7, W.listOf gv.toArray n7) :: (Dl, W.listOf lk.toArray nl) :: U))
@[irreducible] def ζ := upick (by walk_at "m ne") ((ucat un16 (ucat un8 (ucat un4 (ucat un2 un1)))) P)
@[irreducible] def w := ζ.1.1.1.1.1
@[irreducible] def g := ζ.1.1.1.1.2
@[irreducible] def s := ζ.1.1.1.2.1
@[irreducible] def L' := ζ.1.2.1.1.1
@[irreducible] def Q := ζ.1.2.1.1.2
@[irreducible] def E := ζ.1.2.1.2.1
@[irreducible] def m := ζ.1.2.1.2.2
@[irreducible] def rest := ζ.1.2.2.1.1
theorem core : P w g s ζ.1.1.1.2.2 ζ.1.1.2.1.1 ζ.1.1.2.1.2 ζ.1.1.2.2.1 ζ.1.1.2.2.2 L' Q E m rest ζ.1.2.2.1.2 ζ.1.2.2.2.1 ζ.1.2.2.2.2 ζ.2.1.1.1.1 ζ.2.1.1.1.2 ζ.2.1.1.2.1 ζ.2.1.1.2.2 ζ.2.1.2.1.1 ζ.2.1.2.1.2 ζ.2.1.2.2.1 ζ.2.1.2.2.2 ζ.2.2.1.1.1 ζ.2.2.1.1.2 ζ.2.2.1.2.1 ζ.2.2.1.2.2 ζ.2.2.2.1.1 ζ.2.2.2.1.2 ζ.2.2.2.2 := by
  intro hh hll hl6 hrow hgro hlk d4 d5 d7 X Tp F N ND K kk k
  revert X; k_fill; intro X
  show wpAny _ _ (execs (_ :: rest) _) _ _ _
  dsimp only [lawEnv, List.map] at *
  walk_at "m go"
  unfold Halt
  refine compT_range (n := ζ.2.1.1.1.2) (J := fun k ys T => IntsAre ys (intsN ((List.range k).filter ζ.2.2.1.2.2)) ∧ T = _) (by rfl) ‹_› ‹_› (by k_dflt assumption) ‹_› (rg_small (by lia) (by lia) (by lia) (by lia)) (rg_size (by split <;> lia)) (by lia) ⟨.nil, rfl⟩ ?_ ?_
  · intro k_ t2_ ys2 T I₂ oI₂ C₂ oC₂ D₂ m₂ h₃ tk₃ E₃ hk j hC hx F₃ N₃ nd₃
    obtain ⟨hy2, rfl⟩ := j
    obtain ⟨tr, hr⟩ := hrow k_ hk
    obtain ⟨tg, hg⟩ := hgro k_ hk
    have hne := grown_ne (dots (ζ.2.2.1.1.2.getD k_ 0)) (ζ.2.2.1.2.2 k_)
    dsimp only at F₃ N₃ ⊢
    walk_at "m go"
    · rename (_ = true) => hq
      rw [hne] at hq
      refine TurnC.mk (rest := ?rs11) ‹_› ‹_› (by k_dflt assumption) _ ?tk1 ⟨filt_yes hy2 hq (by lia), rfl⟩
      case tk1 => walk_at "m take"
    · rename (_ = false) => hq
      rw [hne] at hq
      refine TurnC.mk (rest := ?rs12) ‹_› ‹_› (by k_dflt assumption) _ ?tk2 ⟨filt_no hy2 hq, rfl⟩
      case tk2 => walk_at "m take"
  intro gg ys2 T j nd D₃ h₃ tk₃ F₃ N₃ o1
  obtain ⟨hy2, rfl⟩ := j
  have ND₃ := apart1_of o1 nd
  clear o1 nd
  dsimp only at *
  walk_at "m go"
  unfold Halt
  refine comp_list (vs := ζ.2.2.1.1.1) (c := ζ.2.1.2.1.1) (J := fun i ys T => IntsAre ys (((intsN ζ.2.2.1.2.1).take i).map ((ζ.2.1.1.1.2 : Int) + ·)) ∧ T = _) (by rfl) ‹_› ‹_› (by k_dflt assumption) (by rw [hlk.length]; simp [intsN]; lia) ⟨.nil, rfl⟩ (fun i ys T j => by rw [j.2]; k_mem) ?_ ?_
  · intro i v ys T I oI C oC D m₂ h₂ tk₂ E₂ hin hv j hC hx F₂ N₂ nd₂
    obtain ⟨hy, rfl⟩ := j
    obtain ⟨d, t', hk, rfl, hd6⟩ := ints_nat hlk hl6 i v hv
    walk_at "m go"
    try dsimp only
    refine TurnC.mk (rest := ?rs13) ‹_› ‹_› (by k_dflt assumption) _ ?tk3 ⟨ints_next (f := ((ζ.2.1.1.1.2 : Int) + ·)) hy (by unfold intsN; rw [List.getElem?_map, hk]; rfl), rfl⟩
    case tk3 => walk_at "m take"
  intro gg ys T j nd D₄ h₄ tk₄ F₄ N₄ o1
  obtain ⟨hy, rfl⟩ := j
  have ND₄ := apart1_of o1 nd
  clear o1 nd
  rw [List.take_of_length_le (by rw [hlk.length]; exact Nat.le_refl _)] at hy
  have hz1 : ys2.length ≤ 6 := by
    have := hy2.length; rw [this]; unfold intsN; rw [List.length_map]
    exact Nat.le_trans (List.length_filter_le _ _) (by simp; exact hh)
  have hz2 : ys.length ≤ 6 := by have := hy.length; rw [this, List.length_map]; simp [intsN]; exact hll
  dsimp only at *
  walk_at "m go"
  try dsimp only
  refine' segF_end (kk _ _ (k _ _ (places_eq hy2 hy))) (rs := ?rs3) ‹_› ‹_› (by k_dflt assumption) ?l ?fr ?t
  case l => walk_at "m loc"
  case fr => walk_at "m fr"
  case t => walk_at "m take"
end E_seg_b17
end
theorem seg_b17 : ∀ {w g s p loose mean mg mb L' Q E m rest U D5 D7 Dl hi n5 n7 nl u6 rv gv lk ds ls bare c4 c5 c7}, E_seg_b17.P w g s p loose mean mg mb L' Q E m rest U D5 D7 Dl hi n5 n7 nl u6 rv gv lk ds ls bare c4 c5 c7 := fun {w g s p loose mean mg mb L' Q E m rest U D5 D7 Dl hi n5 n7 nl u6 rv gv lk ds ls bare c4 c5 c7} => by with_unfolding_all exact pk (c := E_seg_b17.ζ) rfl E_seg_b17.core (((((w, g), (s, p)), ((loose, mean), (mg, mb))), (((L', Q), (E, m)), ((rest, U), (D5, D7)))), ((((Dl, hi), (n5, n7)), ((nl, u6), (rv, gv))), (((lk, ds), (ls, bare)), ((c4, c5), c7))))
end
section
noncomputable section
namespace E_seg_b18
def P (w : World) (g : Heap) (s : Shared) (p : Program) (loose : List Str) (mean : EoV) (mg mb : SoV) (L' : Addr) (Q : FsP) (E : VsP) (m : SoV) (rest : List Stmt) (U : Led) (n t : Nat) (u1 u2 : Tok) : Prop := (4 ≤ t) → (t ≤ 6) → (n ≤ 62) → SegFS w g s p loose mean mg mb L' Q E m rest (lawRun 18 1 (blockOf 12 lawBody) rest) [(Str.ofString "number", .int (n : Int) u2), (Str.ofString "total", .int (t : Int) u1)] (U) [Str.ofString "number"] (fun K => ∀ (u2' : Tok), K [(Str.ofString "number", .int ((rotN t n : Nat) : Int) u2'), (Str.ofString "total", .int (t : Int) u1)] (U))
@[irreducible] def ζ := upick (by walk_at "m ne") ((ucat un16 un2) P)
@[irreducible] def w := ζ.1.1.1.1.1
@[irreducible] def g := ζ.1.1.1.1.2
@[irreducible] def s := ζ.1.1.1.2.1
@[irreducible] def L' := ζ.1.2.1.1.1
@[irreducible] def Q := ζ.1.2.1.1.2
@[irreducible] def E := ζ.1.2.1.2.1
@[irreducible] def m := ζ.1.2.1.2.2
@[irreducible] def rest := ζ.1.2.2.1.1
theorem core : P w g s ζ.1.1.1.2.2 ζ.1.1.2.1.1 ζ.1.1.2.1.2 ζ.1.1.2.2.1 ζ.1.1.2.2.2 L' Q E m rest ζ.1.2.2.1.2 ζ.1.2.2.2.1 ζ.1.2.2.2.2 ζ.2.1 ζ.2.2 := by
  intro ht4 ht6 hn X Tp F N ND K kk k
  revert X; k_fill; intro X
  show wpAny _ _ (execs (_ :: rest) _) _ _ _
  dsimp only [lawEnv, List.map] at *
  walk_at "m go"
  try dsimp only
  simp only [rot_eq (t := ζ.1.2.2.2.2) (n := ζ.1.2.2.2.1) (by lia)] at *
  refine' segF_end (kk _ _ (k _)) (rs := ?rs3) ‹_› ‹_› (by k_dflt assumption) ?l ?fr ?t
  case l => walk_at "m loc"
  case fr => walk_at "m fr"
  case t => walk_at "m take"
end E_seg_b18
end
theorem seg_b18 : ∀ {w g s p loose mean mg mb L' Q E m rest U n t u1 u2}, E_seg_b18.P w g s p loose mean mg mb L' Q E m rest U n t u1 u2 := fun {w g s p loose mean mg mb L' Q E m rest U n t u1 u2} => by with_unfolding_all exact pk (c := E_seg_b18.ζ) rfl E_seg_b18.core (((((w, g), (s, p)), ((loose, mean), (mg, mb))), (((L', Q), (E, m)), ((rest, U), (n, t)))), (u1, u2))
end
section
noncomputable section
namespace E_seg_b19
def P (w : World) (g : Heap) (s : Shared) (p : Program) (loose : List Str) (mean : EoV) (mg mb : SoV) (L' : Addr) (Q : FsP) (E : VsP) (m : SoV) (rest : List Stmt) (U : Led) (Dp : Addr) (n ba np : Nat) (u2 u3 : Tok) (pv : List Value) (ps : List Nat) (c2 : Obj) : Prop := (1 ≤ n) → (n ≤ 62) → (ba ≤ 8) → (ps.length ≤ 6) → (∀ p ∈ ps, p ≤ 5) → (IntsAre pv (intsN ps)) → (n * 2 ^ ba < 16384) → (flagsL (n * 2 ^ ba) = joinL [44, 32] (ps.map fun k => nameL (ba + k))) → (c2.data = .cell (some (.int (ba : Int) u3))) → SegFS w g s p loose mean mg mb L' Q E m rest (lawRun 19 1 (blockOf 12 lawBody) rest) [(Str.ofString "number", .int (n : Int) u2), (Str.ofString "places", .ref Dp)] ((L' + 2, c2) :: (Dp, W.listOf pv.toArray np) :: U) [] (fun K => K [(Str.ofString "number", .int (n : Int) u2), (Str.ofString "places", .ref Dp)] ((L' + 2, c2) :: (Dp, W.listOf pv.toArray np) :: U))
@[irreducible] def ζ := upick (by walk_at "m ne") ((ucat un16 (ucat un4 (ucat un2 un1))) P)
@[irreducible] def w := ζ.1.1.1.1.1
@[irreducible] def g := ζ.1.1.1.1.2
@[irreducible] def s := ζ.1.1.1.2.1
@[irreducible] def L' := ζ.1.2.1.1.1
@[irreducible] def Q := ζ.1.2.1.1.2
@[irreducible] def E := ζ.1.2.1.2.1
@[irreducible] def m := ζ.1.2.1.2.2
@[irreducible] def rest := ζ.1.2.2.1.1
@[irreducible] def ba := ζ.2.1.1.1
@[irreducible] def ps := ζ.2.2.1.2
theorem core : P w g s ζ.1.1.1.2.2 ζ.1.1.2.1.1 ζ.1.1.2.1.2 ζ.1.1.2.2.1 ζ.1.1.2.2.2 L' Q E m rest ζ.1.2.2.1.2 ζ.1.2.2.2.1 ζ.1.2.2.2.2 ba ζ.2.1.1.2 ζ.2.1.2.1 ζ.2.1.2.2 ζ.2.2.1.1 ps ζ.2.2.2 := by
  intro hn0 hn hba hpl hp5 hpv hf1 heq d2 X Tp F N ND K kk k
  revert X; k_fill; intro X
  show wpAny _ _ (execs (_ :: rest) _) _ _ _
  dsimp only [lawEnv, List.map] at *
  have hf0 : 1 ≤ ζ.1.2.2.2.2 * 2 ^ ba := Nat.mul_pos hn0 (Nat.pos_of_ne_zero (by simp))
  walk_at "m go"
  unfold Halt
  have hpl2 := hpv.length
  have hil : (intsN ps).length = ps.length := by simp [intsN]
  refine comp_list (vs := ζ.2.2.1.1) (c := ζ.2.1.1.2) (J := fun i ys T => TxsAre ys ((ps.take i).map fun k => nameL (ba + k)) ∧ T = _) (by rfl) ‹_› ‹_› (by k_dflt assumption) (by lia) ⟨.nil, rfl⟩ (fun i ys T j => by rw [j.2]; k_mem) ?_ ?_
  · intro i v ys T I oI C oC D m₂ h₂ tk₂ E₂ hin hv j hC hx F₂ N₂ nd₂
    obtain ⟨hy, rfl⟩ := j
    obtain ⟨d, t', hk, rfl, hd5⟩ := ints_nat hpv hp5 i v hv
    walk_at "m go"
    try dsimp only
    refine TurnC.mk (rest := ?rs11) ‹_› ‹_› (by k_dflt assumption) _ ?tk ⟨txs_next hy hk (by rw [show ((ba : Int) + (d : Int)).toNat = ba + d by lia]), rfl⟩
    case tk => walk_at "m take"
  intro gg ys T j nd D h₃ tk₃ F₃ N₃ o1
  obtain ⟨hy, rfl⟩ := j
  have ND₃ := apart1_of o1 nd
  clear o1 nd
  rw [show ζ.2.2.1.1.length = ps.length by lia, List.take_length] at hy
  have hw : ((ps.map fun k => nameL (ba + k)).map List.length).sum + (ps.map fun k => nameL (ba + k)).length ≤ 100000 := by
    have := sum_len (ls := ps.map fun k => nameL (ba + k)) (B := 18) fun x hx => by
      obtain ⟨k, _, rfl⟩ := List.mem_map.mp hx
      exact name_len _
    rw [List.length_map] at this ⊢
    lia
  dsimp only at *
  try rw [heq]
  walk_at "m go"
  · exfalso
    rename (_ = true) => he
    first | (simp at he; done) | (simp [heq] at he; done)
  · dsimp only
    refine' segF_end (kk _ _ (k)) (rs := ?rs3) ‹_› ‹_› (by k_dflt assumption) ?l ?fr ?t
    case l => walk_at "m loc"
    case fr => walk_at "m fr"
    case t => walk_at "m take"
end E_seg_b19
end
theorem seg_b19 : ∀ {w g s p loose mean mg mb L' Q E m rest U Dp n ba np u2 u3 pv ps c2}, E_seg_b19.P w g s p loose mean mg mb L' Q E m rest U Dp n ba np u2 u3 pv ps c2 := fun {w g s p loose mean mg mb L' Q E m rest U Dp n ba np u2 u3 pv ps c2} => by with_unfolding_all exact pk (c := E_seg_b19.ζ) rfl E_seg_b19.core (((((w, g), (s, p)), ((loose, mean), (mg, mb))), (((L', Q), (E, m)), ((rest, U), (Dp, n)))), (((ba, np), (u2, u3)), ((pv, ps), c2)))
end
section
noncomputable section
namespace E_seg_b20
def P (w : World) (g : Heap) (s : Shared) (p : Program) (loose : List Str) (mean : EoV) (mg mb : SoV) (L' : Addr) (Q : FsP) (E : VsP) (m : SoV) (rest : List Stmt) (U : Led) : Prop := SegFS w g s p loose mean mg mb L' Q E m rest (lawRun 20 1 (blockOf 12 lawBody) rest) [] (U) [Str.ofString "held"] (fun K => ∀ (th : Tok), K [(Str.ofString "held", .str (Str.ofString ".") th)] (U))
@[irreducible] def ζ := upick (by walk_at "m ne") ((ucat un8 (ucat un4 un2)) P)
@[irreducible] def w := ζ.1.1.1.1
@[irreducible] def g := ζ.1.1.1.2
@[irreducible] def s := ζ.1.1.2.1
@[irreducible] def L' := ζ.2.1.1.1
@[irreducible] def Q := ζ.2.1.1.2
@[irreducible] def E := ζ.2.1.2.1
@[irreducible] def m := ζ.2.1.2.2
@[irreducible] def rest := ζ.2.2.1
theorem core : P w g s ζ.1.1.2.2 ζ.1.2.1.1 ζ.1.2.1.2 ζ.1.2.2.1 ζ.1.2.2.2 L' Q E m rest ζ.2.2.2 := by
  intro X Tp F N ND K kk k
  revert X; k_fill; intro X
  show wpAny _ _ (execs (_ :: rest) _) _ _ _
  dsimp only [lawEnv, List.map] at *
  walk_at "m go"
  try dsimp only
  refine' segF_end (kk _ _ (k _)) (rs := ?rs3) ‹_› ‹_› (by k_dflt assumption) ?l ?fr ?t
  case l => walk_at "m loc"
  case fr => walk_at "m fr"
  case t => walk_at "m take"
end E_seg_b20
end
theorem seg_b20 : ∀ {w g s p loose mean mg mb L' Q E m rest U}, E_seg_b20.P w g s p loose mean mg mb L' Q E m rest U := fun {w g s p loose mean mg mb L' Q E m rest U} => by with_unfolding_all exact pk (c := E_seg_b20.ζ) rfl E_seg_b20.core ((((w, g), (s, p)), ((loose, mean), (mg, mb))), (((L', Q), (E, m)), (rest, U)))
end
section
noncomputable section
namespace E_seg_y1
def P (w : World) (g : Heap) (s : Shared) (p : Program) (loose : List Str) (mean : EoV) (mg mb : SoV) (L' : Addr) (Q : FsP) (E : VsP) (m : SoV) (rest : List Stmt) (U : Led) (z : Int) (i : Nat) (ti : Tok) (D5 : Addr) (rv : List Value) (d n5 : Nat) (tr : Tok) (c5 : Obj) (Dl a : Addr) (rl vs : List Value) (nl na : Nat) : Prop := (z = (i : Int)) → (i ≤ 6) → (d ≤ 6) → (rv[i]? = some (.str (Tx (dots d)) tr)) → (c5.data = .cell (some (.ref D5))) → (rl[i]? = some (.ref a)) → (vs.length ≤ 6) → SegFS w g s p loose mean mg mb L' Q E m rest (lawRun 0 1 (blockOf 21 (blockOf 12 lawBody)) rest) [(Str.ofString "i", .int z ti), (Str.ofString "runs", .ref Dl)] ((L' + 5, c5) :: (D5, W.listOf rv.toArray n5) :: (Dl, W.listOf rl.toArray nl) :: (a, W.listOf vs.toArray na) :: U) [] (fun K => ∀ (tn : Tok), K [(Str.ofString "i", .int z ti), (Str.ofString "runs", .ref Dl)] ((L' + 5, c5) :: (D5, W.listOf rv.toArray n5) :: (Dl, W.listOf rl.toArray nl) :: (a, W.listOf (vs ++ [Value.int (d : Int) tn]).toArray (na + 1)) :: U))
@[irreducible] def ζ := upick (by walk_at "m ne") ((ucat un16 (ucat un8 (ucat un4 un1))) P)
@[irreducible] def w := ζ.1.1.1.1.1
@[irreducible] def g := ζ.1.1.1.1.2
@[irreducible] def s := ζ.1.1.1.2.1
@[irreducible] def L' := ζ.1.2.1.1.1
@[irreducible] def Q := ζ.1.2.1.1.2
@[irreducible] def E := ζ.1.2.1.2.1
@[irreducible] def m := ζ.1.2.1.2.2
@[irreducible] def rest := ζ.1.2.2.1.1
@[irreducible] def d := ζ.2.1.1.2.2
theorem core : P w g s ζ.1.1.1.2.2 ζ.1.1.2.1.1 ζ.1.1.2.1.2 ζ.1.1.2.2.1 ζ.1.1.2.2.2 L' Q E m rest ζ.1.2.2.1.2 ζ.1.2.2.2.1 ζ.1.2.2.2.2 ζ.2.1.1.1.1 ζ.2.1.1.1.2 ζ.2.1.1.2.1 d ζ.2.1.2.1.1 ζ.2.1.2.1.2 ζ.2.1.2.2.1 ζ.2.1.2.2.2 ζ.2.2.1.1.1 ζ.2.2.1.1.2 ζ.2.2.1.2.1 ζ.2.2.1.2.2 ζ.2.2.2 := by
  intro hz hi6 hd6 hrow d5 hrl hvl X Tp F N ND K kk k
  revert X; k_fill; intro X
  show wpAny _ _ (execs (_ :: rest) _) _ _ _
  dsimp only [lawEnv, List.map] at *
  have hL : (Tx (dots d)).length = d + 1 := by rw [tx_len, dots_len]
  have hL2 : ((Tx (dots d)).length : Int) - 1 = (d : Int) := by lia
  walk_at "m go"
  try dsimp only
  simp only [List.push_toArray, hL2] at *
  refine' segF_end (kk _ _ (k _)) (rs := ?rs3) ‹_› ‹_› (by k_dflt assumption) ?l ?fr ?t
  case l => walk_at "m loc"
  case fr => walk_at "m fr"
  case t => walk_at "m take"
end E_seg_y1
end
theorem seg_y1 : ∀ {w g s p loose mean mg mb L' Q E m rest U z i ti D5 rv d n5 tr c5 Dl a rl vs nl na}, E_seg_y1.P w g s p loose mean mg mb L' Q E m rest U z i ti D5 rv d n5 tr c5 Dl a rl vs nl na := fun {w g s p loose mean mg mb L' Q E m rest U z i ti D5 rv d n5 tr c5 Dl a rl vs nl na} => by with_unfolding_all exact pk (c := E_seg_y1.ζ) rfl E_seg_y1.core (((((w, g), (s, p)), ((loose, mean), (mg, mb))), (((L', Q), (E, m)), ((rest, U), (z, i)))), ((((ti, D5), (rv, d)), ((n5, tr), (c5, Dl))), (((a, rl), (vs, nl)), na)))
end
section
noncomputable section
namespace E_seg_y2
def P (w : World) (g : Heap) (s : Shared) (p : Program) (loose : List Str) (mean : EoV) (mg mb : SoV) (L' : Addr) (Q : FsP) (E : VsP) (m : SoV) (rest : List Stmt) (U : Led) (z : Int) (i : Nat) (ti : Tok) (D5 : Addr) (rv : List Value) (d n5 : Nat) (tr : Tok) (c5 : Obj) (D7 Dh at' : Addr) (hs : List HT) (gv hv : List Value) (n7 nh : Nat) (hl tkx : List Nat) (th tg t1 t2 : Tok) (ln : Int) (c7 : Obj) : Prop := ∀ {bb : Bool}, (z = (i : Int)) → (i ≤ 6) → (d ≤ 6) → (rv[i]? = some (.str (Tx (dots d)) tr)) → (c5.data = .cell (some (.ref D5))) → (gv[i]? = some (.str (Tx (if bb then 46 :: dots d else dots d)) tg)) → (hv[i]? = some (.ref at')) → ((at', tupOf [.str (Tx tkx) t1, .int ln t2] 0) ∈ hearT hs) → (c7.data = .cell (some (.ref D7))) → SegFS w g s p loose mean mg mb L' Q E m rest (lawRun 1 1 (blockOf 21 (blockOf 12 lawBody)) rest) [(Str.ofString "i", .int z ti), (Str.ofString "heard", .ref Dh), (Str.ofString "held", .str (Tx hl) th)] ((L' + 5, c5) :: (L' + 7, c7) :: (D5, W.listOf rv.toArray n5) :: (D7, W.listOf gv.toArray n7) :: (Dh, W.listOf hv.toArray nh) :: (hearT hs ++ U)) [Str.ofString "held"] (fun K => ∀ (th' : Tok), K [(Str.ofString "i", .int z ti), (Str.ofString "heard", .ref Dh), (Str.ofString "held", .str (Tx (if bb then tkx else hl)) th')] ((L' + 5, c5) :: (L' + 7, c7) :: (D5, W.listOf rv.toArray n5) :: (D7, W.listOf gv.toArray n7) :: (Dh, W.listOf hv.toArray nh) :: (hearT hs ++ U)))
@[irreducible] def ζ := upick (by walk_at "m ne") ((ucat un32 (ucat un4 (ucat un2 un1))) P)
@[irreducible] def w := ζ.1.1.1.1.1.1
@[irreducible] def g := ζ.1.1.1.1.1.2
@[irreducible] def s := ζ.1.1.1.1.2.1
@[irreducible] def L' := ζ.1.1.2.1.1.1
@[irreducible] def Q := ζ.1.1.2.1.1.2
@[irreducible] def E := ζ.1.1.2.1.2.1
@[irreducible] def m := ζ.1.1.2.1.2.2
@[irreducible] def rest := ζ.1.1.2.2.1.1
theorem core : P w g s ζ.1.1.1.1.2.2 ζ.1.1.1.2.1.1 ζ.1.1.1.2.1.2 ζ.1.1.1.2.2.1 ζ.1.1.1.2.2.2 L' Q E m rest ζ.1.1.2.2.1.2 ζ.1.1.2.2.2.1 ζ.1.1.2.2.2.2 ζ.1.2.1.1.1.1 ζ.1.2.1.1.1.2 ζ.1.2.1.1.2.1 ζ.1.2.1.1.2.2 ζ.1.2.1.2.1.1 ζ.1.2.1.2.1.2 ζ.1.2.1.2.2.1 ζ.1.2.1.2.2.2 ζ.1.2.2.1.1.1 ζ.1.2.2.1.1.2 ζ.1.2.2.1.2.1 ζ.1.2.2.1.2.2 ζ.1.2.2.2.1.1 ζ.1.2.2.2.1.2 ζ.1.2.2.2.2.1 ζ.1.2.2.2.2.2 ζ.2.1.1.1 ζ.2.1.1.2 ζ.2.1.2.1 ζ.2.1.2.2 ζ.2.2.1.1 ζ.2.2.1.2 ζ.2.2.2 := by
  intro bb hz hi6 hd6 hrow d5 hgro hhe hme d7 X Tp F N ND K kk k
  revert X; k_fill; intro X
  show wpAny _ _ (execs (_ :: rest) _) _ _ _
  dsimp only [lawEnv, List.map] at *
  have hne := grown_ne (dots ζ.1.2.1.1.2.2) bb
  walk_at "m go"
  · rename (_ = true) => he
    rw [hne] at he
    subst he
    dsimp only
    refine' segF_end (kk _ _ (k _)) (rs := ?rs3) ‹_› ‹_› (by k_dflt assumption) ?l ?fr ?t
    case l => walk_at "m loc"
    case fr => walk_at "m fr"
    case t => walk_at "m take"
  · rename (_ = false) => he
    rw [hne] at he
    subst he
    dsimp only
    refine' segF_end (kk _ _ (k _)) (rs := ?rs4) ‹_› ‹_› (by k_dflt assumption) ?l ?fr ?t
    case l => walk_at "m loc"
    case fr => walk_at "m fr"
    case t => walk_at "m take"
end E_seg_y2
end
theorem seg_y2 : ∀ {w g s p loose mean mg mb L' Q E m rest U z i ti D5 rv d n5 tr c5 D7 Dh at' hs gv hv n7 nh hl tkx th tg t1 t2 ln c7}, E_seg_y2.P w g s p loose mean mg mb L' Q E m rest U z i ti D5 rv d n5 tr c5 D7 Dh at' hs gv hv n7 nh hl tkx th tg t1 t2 ln c7 := fun {w g s p loose mean mg mb L' Q E m rest U z i ti D5 rv d n5 tr c5 D7 Dh at' hs gv hv n7 nh hl tkx th tg t1 t2 ln c7} => by with_unfolding_all exact pk (c := E_seg_y2.ζ) rfl E_seg_y2.core ((((((w, g), (s, p)), ((loose, mean), (mg, mb))), (((L', Q), (E, m)), ((rest, U), (z, i)))), ((((ti, D5), (rv, d)), ((n5, tr), (c5, D7))), (((Dh, at'), (hs, gv)), ((hv, n7), (nh, hl))))), (((tkx, th), (tg, t1)), ((t2, ln), c7)))
end
section
noncomputable section
namespace E_seg_y3
def P (w : World) (g : Heap) (s : Shared) (p : Program) (loose : List Str) (mean : EoV) (mg mb : SoV) (L' : Addr) (Q : FsP) (E : VsP) (m : SoV) (rest : List Stmt) (U : Led) (z : Int) (i : Nat) (ti : Tok) (D5 : Addr) (rv : List Value) (d n5 : Nat) (tr : Tok) (c5 : Obj) (hl : List Nat) (th : Tok) : Prop := (z = (i : Int)) → (i ≤ 6) → (d ≤ 6) → (rv[i]? = some (.str (Tx (dots d)) tr)) → (c5.data = .cell (some (.ref D5))) → (i < rv.length) → SegFS w g s p loose mean mg mb L' Q E m rest (lawRun 2 1 (blockOf 21 (blockOf 12 lawBody)) rest) [(Str.ofString "i", .int z ti), (Str.ofString "held", .str (Tx hl) th)] ((L' + 5, c5) :: (D5, W.listOf rv.toArray n5) :: U) [] (fun K => ∀ (n5' : Nat), K [(Str.ofString "i", .int z ti), (Str.ofString "held", .str (Tx hl) th)] ((L' + 5, c5) :: (D5, W.listOf (rv.set i (.str (Tx hl) th)).toArray n5') :: U))
@[irreducible] def ζ := upick (by walk_at "m ne") ((ucat un16 (ucat un8 un1)) P)
@[irreducible] def w := ζ.1.1.1.1.1
@[irreducible] def g := ζ.1.1.1.1.2
@[irreducible] def s := ζ.1.1.1.2.1
@[irreducible] def L' := ζ.1.2.1.1.1
@[irreducible] def Q := ζ.1.2.1.1.2
@[irreducible] def E := ζ.1.2.1.2.1
@[irreducible] def m := ζ.1.2.1.2.2
@[irreducible] def rest := ζ.1.2.2.1.1
theorem core : P w g s ζ.1.1.1.2.2 ζ.1.1.2.1.1 ζ.1.1.2.1.2 ζ.1.1.2.2.1 ζ.1.1.2.2.2 L' Q E m rest ζ.1.2.2.1.2 ζ.1.2.2.2.1 ζ.1.2.2.2.2 ζ.2.1.1.1.1 ζ.2.1.1.1.2 ζ.2.1.1.2.1 ζ.2.1.1.2.2 ζ.2.1.2.1.1 ζ.2.1.2.1.2 ζ.2.1.2.2.1 ζ.2.1.2.2.2 ζ.2.2 := by
  intro hz hi6 hd6 hrow d5 hil X Tp F N ND K kk k
  revert X; k_fill; intro X
  show wpAny _ _ (execs (_ :: rest) _) _ _ _
  dsimp only [lawEnv, List.map] at *
  walk_at "m go"
  try dsimp only
  refine' segF_end (kk _ _ (k _)) (rs := ?rs3) ‹_› ‹_› (by k_dflt assumption) ?l ?fr ?t
  case l => walk_at "m loc"
  case fr => walk_at "m fr"
  case t => walk_at "m take"
end E_seg_y3
end
theorem seg_y3 : ∀ {w g s p loose mean mg mb L' Q E m rest U z i ti D5 rv d n5 tr c5 hl th}, E_seg_y3.P w g s p loose mean mg mb L' Q E m rest U z i ti D5 rv d n5 tr c5 hl th := fun {w g s p loose mean mg mb L' Q E m rest U z i ti D5 rv d n5 tr c5 hl th} => by with_unfolding_all exact pk (c := E_seg_y3.ζ) rfl E_seg_y3.core (((((w, g), (s, p)), ((loose, mean), (mg, mb))), (((L', Q), (E, m)), ((rest, U), (z, i)))), ((((ti, D5), (rv, d)), ((n5, tr), (c5, hl))), th))
end
section
inductive JY (L' D Dl D5 D7 Dh rx : Addr) (n t st tu hi n7 nh nl : Nat) (gv : List Value) (al : List Addr) (hs : List HT) (ds : List Nat) (bare : Nat → Bool) (col : Nat → List Nat) (u0 u1 u2 u4 : Tok) (c4 c5 c7 : Obj) (U : List (Addr × Obj)) (k : Nat) (V : List (Str × Value)) (T : List (Addr × Obj)) : Prop
  | mk (th : Tok) (n5 : Nat) (rv : List Value) (rs : List (Addr × List Value × Nat)) (q0 : TxsAre rv ((rowsK ds bare hi k).map dots)) (q1 : rs.map (·.1) = al) (q2 : RunsOk rs (fun i => if hi - k ≤ i then col i ++ [ds.getD i 0] else col i)) (q3 : V = [(Str.ofString "held", .str (Tx (dots (heldK ds bare hi k))) th), (Str.ofString "heard", .ref Dh), (Str.ofString "step", .int (st : Int) u0), (Str.ofString "turn", .int (tu : Int) u4), (Str.ofString "runs", .ref Dl), (Str.ofString "ring", .ref rx), (Str.ofString "number", .int (n : Int) u2), (Str.ofString "total", .int (t : Int) u1), (Str.ofString "heaps", .ref D)]) (q4 : T = (L' + 4, c4) :: ((L' + 5, c5) :: ((L' + 7, c7) :: ((D5, W.listOf rv.toArray n5) :: ((D7, W.listOf gv.toArray n7) :: ((Dh, W.listOf (hearV hs).toArray nh) :: ((Dl, W.listOf (al.map Value.ref).toArray nl) :: (runsT rs ++ (hearT hs ++ ((U))))))))))) : JY L' D Dl D5 D7 Dh rx n t st tu hi n7 nh nl gv al hs ds bare col u0 u1 u2 u4 c4 c5 c7 U k V T
theorem y9_tk1 (p0 p1 p2 p3 p4 p5 p6 p7 : Addr × Obj) (B8 : Led) (p9 : Addr × Obj) (B10 B11 B12 : Led) : TakeAll (p0 :: (p1 :: (p2 :: (p3 :: (p4 :: (p5 :: (p6 :: (p7 :: (B8 ++ (p9 :: (B10 ++ (B11 ++ (B12))))))))))))) (p2 :: (p4 :: (p7 :: (p9 :: (p0 :: (p1 :: (p3 :: (p5 :: (p6 :: (B8 ++ (B10 ++ (B11 ++ (B12))))))))))))) ([]) := take_blocks [[p0], [p1], [p2], [p3], [p4], [p5], [p6], [p7], B8, [p9], B10, B11, B12] 13 rfl [2, 4, 7, 9, 0, 1, 3, 5, 6, 8, 10, 11, 12] [] (by decide +kernel)
theorem y9_tk2 (p0 p1 p2 p3 p4 p5 p6 p7 p8 : Addr × Obj) (B9 B10 B11 B12 : Led) : TakeAll (p0 :: (p1 :: (p2 :: (p3 :: (p4 :: (p5 :: (p6 :: (p7 :: (p8 :: (B9 ++ (B10 ++ (B11 ++ (B12))))))))))))) (p0 :: (p6 :: (p1 :: (p7 :: (p8 :: (B11 ++ (p2 :: (p3 :: (p4 :: (p5 :: (B9 ++ (B10 ++ (B12))))))))))))) ([]) := take_blocks [[p0], [p1], [p2], [p3], [p4], [p5], [p6], [p7], [p8], B9, B10, B11, B12] 13 rfl [0, 6, 1, 7, 8, 11, 2, 3, 4, 5, 9, 10, 12] [] (by decide +kernel)
theorem y9_tk3 (p0 p1 p2 p3 p4 : Addr × Obj) (B5 : Led) (p6 p7 p8 p9 : Addr × Obj) (B10 B11 B12 : Led) : TakeAll (p0 :: (p1 :: (p2 :: (p3 :: (p4 :: (B5 ++ (p6 :: (p7 :: (p8 :: (p9 :: (B10 ++ (B11 ++ (B12))))))))))))) (p0 :: (p2 :: (p1 :: (p3 :: (p4 :: (B5 ++ (p6 :: (p7 :: (p8 :: (p9 :: (B10 ++ (B11 ++ (B12))))))))))))) ([]) := take_blocks [[p0], [p1], [p2], [p3], [p4], B5, [p6], [p7], [p8], [p9], B10, B11, B12] 13 rfl [0, 2, 1, 3, 4, 5, 6, 7, 8, 9, 10, 11, 12] [] (by decide +kernel)
theorem y9_tk4 (p0 p1 p2 p3 p4 : Addr × Obj) (B5 : Led) (p6 p7 p8 p9 : Addr × Obj) (B10 B11 B12 : Led) : TakeAll (p0 :: (p1 :: (p2 :: (p3 :: (p4 :: (B5 ++ (p6 :: (p7 :: (p8 :: (p9 :: (B10 ++ (B11 ++ (B12))))))))))))) (p8 :: (p9 :: (p0 :: (p2 :: (p1 :: (p3 :: (p4 :: (p6 :: (B10 ++ (p7 :: (B11 ++ (B5 ++ (B12))))))))))))) ([]) := take_blocks [[p0], [p1], [p2], [p3], [p4], B5, [p6], [p7], [p8], [p9], B10, B11, B12] 13 rfl [8, 9, 0, 2, 1, 3, 4, 6, 10, 7, 11, 5, 12] [] (by decide +kernel)
noncomputable section
namespace E_seg_y9
def P (w : World) (g : Heap) (s : Shared) (p : Program) (loose : List Str) (mean : EoV) (mg mb : SoV) (L' : Addr) (Q : FsP) (E : VsP) (m : SoV) (rest : List Stmt) (D Dl D5 D7 Dh rx : Addr) (n t st tu hi n5 n7 nh nl : Nat) (gv rv : List Value) (al : List Addr) (hs : List HT) (ds : List Nat) (bare : Nat → Bool) (col tk : Nat → List Nat) (rs : List (Addr × List Value × Nat)) (u0 u1 u2 u4 u6 th : Tok) (U : Led) (c4 c5 c7 : Obj) : Prop := (hi ≤ 6) → (ds.length = hi) → (∀ d ∈ ds, d ≤ 6) → (TxsAre rv (ds.map dots)) → (rs.map (·.1) = al) → (al.length = hi) → (st ≤ 5) → (∀ i, (col i).length ≤ st) → (RunsOk rs col) → (hearD hs = (List.range (hi + 1)).map fun i => (tk i, i + 1)) → (∀ i < hi, ∃ t, gv[i]? = some (.str (Tx (if bare i then 46 :: dots (ds.getD i 0) else dots (ds.getD i 0))) t)) → (∀ i < hi, bare i = true → tk i = 46 :: dots (ds.getD i 0)) → (c4.data = .cell (some (.int (hi : Int) u6))) → (c5.data = .cell (some (.ref D5))) → (c7.data = .cell (some (.ref D7))) → SegKS w g s p loose mean mg mb L' Q E m rest (lawRun 21 1 (blockOf 12 lawBody) rest) [(Str.ofString "held", .str (Str.ofString ".") th), (Str.ofString "heard", .ref Dh), (Str.ofString "step", .int (st : Int) u0), (Str.ofString "turn", .int (tu : Int) u4), (Str.ofString "runs", .ref Dl), (Str.ofString "ring", .ref rx), (Str.ofString "number", .int (n : Int) u2), (Str.ofString "total", .int (t : Int) u1), (Str.ofString "heaps", .ref D)] ((L' + 4, c4) :: ((L' + 5, c5) :: ((L' + 7, c7) :: ((D5, W.listOf rv.toArray n5) :: ((D7, W.listOf gv.toArray n7) :: ((Dh, W.listOf (hearV hs).toArray nh) :: ((Dl, W.listOf (al.map Value.ref).toArray nl) :: (runsT rs ++ (hearT hs ++ ((U))))))))))) (fun K => ∀ V T, JY L' D Dl D5 D7 Dh rx n t st tu hi n7 nh nl gv al hs ds bare col u0 u1 u2 u4 c4 c5 c7 U hi V T → K V T)
@[irreducible] def ζ := upick (by walk_at "m ne") ((ucat un32 (ucat un8 (ucat un4 (ucat un2 un1)))) P)
@[irreducible] def w := ζ.1.1.1.1.1.1
@[irreducible] def g := ζ.1.1.1.1.1.2
@[irreducible] def s := ζ.1.1.1.1.2.1
@[irreducible] def p := ζ.1.1.1.1.2.2
@[irreducible] def L' := ζ.1.1.2.1.1.1
@[irreducible] def Q := ζ.1.1.2.1.1.2
@[irreducible] def E := ζ.1.1.2.1.2.1
@[irreducible] def m := ζ.1.1.2.1.2.2
@[irreducible] def rest := ζ.1.1.2.2.1.1
@[irreducible] def D := ζ.1.1.2.2.1.2
@[irreducible] def Dl := ζ.1.1.2.2.2.1
@[irreducible] def D5 := ζ.1.1.2.2.2.2
@[irreducible] def D7 := ζ.1.2.1.1.1.1
@[irreducible] def Dh := ζ.1.2.1.1.1.2
@[irreducible] def rx := ζ.1.2.1.1.2.1
@[irreducible] def n := ζ.1.2.1.1.2.2
@[irreducible] def t := ζ.1.2.1.2.1.1
@[irreducible] def st := ζ.1.2.1.2.1.2
@[irreducible] def tu := ζ.1.2.1.2.2.1
@[irreducible] def hi := ζ.1.2.1.2.2.2
@[irreducible] def n5 := ζ.1.2.2.1.1.1
@[irreducible] def n7 := ζ.1.2.2.1.1.2
@[irreducible] def nh := ζ.1.2.2.1.2.1
@[irreducible] def nl := ζ.1.2.2.1.2.2
@[irreducible] def gv := ζ.1.2.2.2.1.1
@[irreducible] def rv := ζ.1.2.2.2.1.2
@[irreducible] def al := ζ.1.2.2.2.2.1
@[irreducible] def hs := ζ.1.2.2.2.2.2
@[irreducible] def ds := ζ.2.1.1.1.1
@[irreducible] def bare := ζ.2.1.1.1.2
@[irreducible] def col := ζ.2.1.1.2.1
@[irreducible] def tk := ζ.2.1.1.2.2
@[irreducible] def rs := ζ.2.1.2.1.1
@[irreducible] def u0 := ζ.2.1.2.1.2
@[irreducible] def u1 := ζ.2.1.2.2.1
@[irreducible] def u2 := ζ.2.1.2.2.2
@[irreducible] def u4 := ζ.2.2.1.1.1
@[irreducible] def th := ζ.2.2.1.2.1
@[irreducible] def U := ζ.2.2.1.2.2
@[irreducible] def c4 := ζ.2.2.2.1.1
@[irreducible] def c5 := ζ.2.2.2.1.2
@[irreducible] def c7 := ζ.2.2.2.2
theorem core : P w g s p ζ.1.1.1.2.1.1 ζ.1.1.1.2.1.2 ζ.1.1.1.2.2.1 ζ.1.1.1.2.2.2 L' Q E m rest D Dl D5 D7 Dh rx n t st tu hi n5 n7 nh nl gv rv al hs ds bare col tk rs u0 u1 u2 u4 ζ.2.2.1.1.2 th U c4 c5 c7 := by
  intro hh hdl hdb hrv hal hall hst hcl hro hdd hgro htk d4 d5 d7 X Tp F N ND K kk k
  revert X; k_fill; intro X
  show wpAny _ _ (execs (_ :: rest) _) _ _ _
  dsimp only [lawEnv, List.map] at *
  walk_at "m go"
  walk_at "m for"
  walk_at "m go"
  have hrs : rs.length = hi := by rw [← hall, ← hal, List.length_map]
  refine' for_rangeT (L := L') (n := hi) (J := JY L' D Dl D5 D7 Dh rx n t st tu hi n7 nh nl gv al hs ds bare col u0 u1 u2 u4 c4 c5 c7 U) (V₀ := _) (by rfl) ‹_› ?hsm ?hn (by rfl) (by rfl) (by rfl) ‹_› ?lc ‹_› (by k_dflt assumption) ⟨th, n5, rv, rs, ?j1, hal, ?j2, rfl, rfl⟩ ?tk ?_ ?_
  case j1 => rw [← hdl, rowsK_zero]; exact hrv
  case j2 => intro i q hq; have hi' : i < rs.length := (List.getElem?_eq_some_iff.mp hq).1; show IntsAre q.2.1 (intsN (if hi - 0 ≤ i then col i ++ [ds.getD i 0] else col i)); rw [if_neg (by lia)]; exact hro i q hq
  case hsm => exact (down_ok hi (by lia)).1
  case hn => exact (down_ok hi (by lia)).2
  case lc => rw [of_dot_dots]; walk_at "m loc"
  case tk => exact TakeAll.whole
  · clear hro hrv
    intro k t_ m V T h₁ tk₁ I oI E' hk j F₁ N₁ nd₁
    show wpAny _ _ _ _ _ { s with heap := h₁, toks := tk₁ }
    obtain ⟨th, n5, rv, rs, hrv, hal, hro, rfl, rfl⟩ := j
    have hrs : rs.length = hi := by rw [← hall, ← hal, List.length_map]
    have hil : hi - 1 - k < hi := by lia
    have hd6 : ds.getD (hi - 1 - k) 0 ≤ 6 := by rw [List.getD_eq_getElem?_getD, List.getElem?_eq_getElem (by lia)]; exact hdb _ (List.getElem_mem _)
    obtain ⟨tr, hrow⟩ := txs_get hrv (i := hi - 1 - k) (l := dots (ds.getD (hi - 1 - k) 0)) (by rw [List.getElem?_map, rowsK_at hil (by lia)]; rfl)
    obtain ⟨A, p, B, rfl, hA, hp⟩ := runs_cut (rs := rs) (i := hi - 1 - k) (by lia)
    have hrl1 : (al.map Value.ref)[hi - 1 - k]? = some (.ref p.1) := by rw [← hal, List.getElem?_map, List.getElem?_map, hp]; rfl
    have hvl : p.2.1.length ≤ 6 := by
      have h1 := (hro _ p hp).length
      have h2 := hcl (hi - 1 - k)
      simp only [intsN, List.length_map, if_neg (show ¬ hi - k ≤ hi - 1 - k by lia)] at h1
      lia
    obtain ⟨tg, hg⟩ := hgro _ hil
    obtain ⟨a1, t1, t2, hhe, hme⟩ := hear_get hdd (i := hi - 1 - k) (by lia)
    have hirv : hi - 1 - k < rv.length := by have := StrsAre.length hrv; rw [this, List.length_map, List.length_map, rowsK_len]; exact hil
    obtain ⟨N₂, nd₂⟩ : News g L' _ ((I, oI) :: ((L' + 4, c4) :: ((L' + 5, c5) :: ((L' + 7, c7) :: ((D5, W.listOf rv.toArray n5) :: ((D7, W.listOf gv.toArray n7) :: ((Dh, W.listOf (hearV hs).toArray nh) :: ((Dl, W.listOf (al.map Value.ref).toArray nl) :: (runsT A ++ ((p.1, W.listOf p.2.1.toArray p.2.2) :: (runsT B ++ (hearT hs ++ ((U)))))))))))))) ∧ Apart (((I, oI) :: ((L' + 4, c4) :: ((L' + 5, c5) :: ((L' + 7, c7) :: ((D5, W.listOf rv.toArray n5) :: ((D7, W.listOf gv.toArray n7) :: ((Dh, W.listOf (hearV hs).toArray nh) :: ((Dl, W.listOf (al.map Value.ref).toArray nl) :: (runsT A ++ ((p.1, W.listOf p.2.1.toArray p.2.2) :: (runsT B ++ (hearT hs ++ ((U)))))))))))))).map (·.1)) := by
      rw [runsT_cut] at N₁ nd₁
      exact ⟨N₁, nd₁⟩
    have sb_0 := Stt.of (V := [(Str.ofString "i", .int ((hi : Int) - 1 + (k : Int) * -1) t_), (Str.ofString "held", .str (Tx (dots (heldK ds bare hi k))) th), (Str.ofString "heard", .ref Dh), (Str.ofString "step", .int (st : Int) u0), (Str.ofString "turn", .int (tu : Int) u4), (Str.ofString "runs", .ref Dl), (Str.ofString "ring", .ref rx), (Str.ofString "number", .int (n : Int) u2), (Str.ofString "total", .int (t : Int) u1), (Str.ofString "heaps", .ref D)]) F₁ N₂ nd₂
    refine useF [Str.ofString "i", Str.ofString "runs"] [(Str.ofString "held", .str (Tx (dots (heldK ds bare hi k))) th), (Str.ofString "heard", .ref Dh), (Str.ofString "step", .int (st : Int) u0), (Str.ofString "turn", .int (tu : Int) u4), (Str.ofString "ring", .ref rx), (Str.ofString "number", .int (n : Int) u2), (Str.ofString "total", .int (t : Int) u1), (Str.ofString "heaps", .ref D)] (fun m => seg_y1 (m := m) (U := (I, oI) :: ((L' + 4, c4) :: ((L' + 7, c7) :: ((D7, W.listOf gv.toArray n7) :: ((Dh, W.listOf (hearV hs).toArray nh) :: (runsT A ++ (runsT B ++ (hearT hs ++ ((U)))))))))) (by lia : ((hi : Int) - 1 + (k : Int) * -1) = ((hi - 1 - k : Nat) : Int)) (by lia) hd6 hrow d5 hrl1 hvl) X Tp sb_0 (fun _ => ⟨rfl, rfl, trivial⟩) (y9_tk1 (I, oI) (L' + 4, c4) (L' + 5, c5) (L' + 7, c7) (D5, W.listOf rv.toArray n5) (D7, W.listOf gv.toArray n7) (Dh, W.listOf (hearV hs).toArray nh) (Dl, W.listOf (al.map Value.ref).toArray nl) (runsT A) (p.1, W.listOf p.2.1.toArray p.2.2) (runsT B) (hearT hs) (U)) (by rfl) ?_
    intro tn h_1 tk_1 st_1
    show wpAny _ _ _ _ _ { s with heap := h_1, toks := tk_1 }
    refine useF [Str.ofString "i", Str.ofString "heard", Str.ofString "held"] [(Str.ofString "runs", .ref Dl), (Str.ofString "step", .int (st : Int) u0), (Str.ofString "turn", .int (tu : Int) u4), (Str.ofString "ring", .ref rx), (Str.ofString "number", .int (n : Int) u2), (Str.ofString "total", .int (t : Int) u1), (Str.ofString "heaps", .ref D)] (fun m => seg_y2 (m := m) (U := (Dl, W.listOf (al.map Value.ref).toArray nl) :: ((p.1, W.listOf (p.2.1 ++ [Value.int ((ds.getD (hi - 1 - k) 0 : Nat) : Int) tn]).toArray (p.2.2 + 1)) :: ((I, oI) :: ((L' + 4, c4) :: (runsT A ++ (runsT B ++ ((U)))))))) (by lia : ((hi : Int) - 1 + (k : Int) * -1) = ((hi - 1 - k : Nat) : Int)) (by lia) hd6 hrow d5 hg hhe hme d7) X Tp st_1 (fun _ => ⟨rfl, rfl, rfl, trivial⟩) (y9_tk2 (L' + 5, c5) (D5, W.listOf rv.toArray n5) (Dl, W.listOf (al.map Value.ref).toArray nl) (p.1, W.listOf (p.2.1 ++ [Value.int ((ds.getD (hi - 1 - k) 0 : Nat) : Int) tn]).toArray (p.2.2 + 1)) (I, oI) (L' + 4, c4) (L' + 7, c7) (D7, W.listOf gv.toArray n7) (Dh, W.listOf (hearV hs).toArray nh) (runsT A) (runsT B) (hearT hs) (U)) (by rfl) ?_
    intro th2 h_2 tk_2 st_2
    show wpAny _ _ _ _ _ { s with heap := h_2, toks := tk_2 }
    refine useF [Str.ofString "i", Str.ofString "held"] [(Str.ofString "heard", .ref Dh), (Str.ofString "runs", .ref Dl), (Str.ofString "step", .int (st : Int) u0), (Str.ofString "turn", .int (tu : Int) u4), (Str.ofString "ring", .ref rx), (Str.ofString "number", .int (n : Int) u2), (Str.ofString "total", .int (t : Int) u1), (Str.ofString "heaps", .ref D)] (fun m => seg_y3 (m := m) (U := (L' + 7, c7) :: ((D7, W.listOf gv.toArray n7) :: ((Dh, W.listOf (hearV hs).toArray nh) :: (hearT hs ++ ((Dl, W.listOf (al.map Value.ref).toArray nl) :: ((p.1, W.listOf (p.2.1 ++ [Value.int ((ds.getD (hi - 1 - k) 0 : Nat) : Int) tn]).toArray (p.2.2 + 1)) :: ((I, oI) :: ((L' + 4, c4) :: (runsT A ++ (runsT B ++ ((U)))))))))))) (by lia : ((hi : Int) - 1 + (k : Int) * -1) = ((hi - 1 - k : Nat) : Int)) (by lia) hd6 hrow d5 hirv) X Tp st_2 (fun _ => ⟨rfl, rfl, trivial⟩) (y9_tk3 (L' + 5, c5) (L' + 7, c7) (D5, W.listOf rv.toArray n5) (D7, W.listOf gv.toArray n7) (Dh, W.listOf (hearV hs).toArray nh) (hearT hs) (Dl, W.listOf (al.map Value.ref).toArray nl) (p.1, W.listOf (p.2.1 ++ [Value.int ((ds.getD (hi - 1 - k) 0 : Nat) : Int) tn]).toArray (p.2.2 + 1)) (I, oI) (L' + 4, c4) (runsT A) (runsT B) (U)) (by rfl) ?_
    intro n5b h_3 tk_3 st_3
    show wpAny _ _ _ _ _ { s with heap := h_3, toks := tk_3 }
    obtain ⟨⟨m_3, F_3⟩, N_3, nd_3⟩ := st_3
    obtain ⟨N_4, nd_4⟩ := take2 N_3 nd_3 (y9_tk4 (L' + 5, c5) (D5, W.listOf (rv.set (hi - 1 - k) (Value.str (Tx (if bare (hi - 1 - k) then tk (hi - 1 - k) else dots (heldK ds bare hi k))) th2)).toArray n5b) (L' + 7, c7) (D7, W.listOf gv.toArray n7) (Dh, W.listOf (hearV hs).toArray nh) (hearT hs) (Dl, W.listOf (al.map Value.ref).toArray nl) (p.1, W.listOf (p.2.1 ++ [Value.int ((ds.getD (hi - 1 - k) 0 : Nat) : Int) tn]).toArray (p.2.2 + 1)) (I, oI) (L' + 4, c4) (runsT A) (runsT B) (U))
    have hH : (if bare (hi - 1 - k) then tk (hi - 1 - k) else dots (heldK ds bare hi k)) = dots (heldK ds bare hi (k + 1)) := by
      show _ = dots (if bare (hi - 1 - k) then ds.getD (hi - 1 - k) 0 + 1 else heldK ds bare hi k)
      by_cases hb : bare (hi - 1 - k) = true
      · rw [if_pos hb, if_pos hb, htk _ hil hb]; rfl
      · rw [if_neg hb, if_neg hb]
    rw [hH] at F_3 N_4 nd_4
    have hN : News g L' h_3 ((I, oI) :: ((L' + 4, c4) :: ((L' + 5, c5) :: ((L' + 7, c7) :: ((D5, W.listOf (rv.set (hi - 1 - k) (Value.str (Tx (dots (heldK ds bare hi (k + 1)))) th2)).toArray n5b) :: ((D7, W.listOf gv.toArray n7) :: ((Dh, W.listOf (hearV hs).toArray nh) :: ((Dl, W.listOf (al.map Value.ref).toArray nl) :: (runsT (A ++ (p.1, p.2.1 ++ [Value.int ((ds.getD (hi - 1 - k) 0 : Nat) : Int) tn], p.2.2 + 1) :: B) ++ (hearT hs ++ ((U)))))))))))) ∧ Apart (((I, oI) :: ((L' + 4, c4) :: ((L' + 5, c5) :: ((L' + 7, c7) :: ((D5, W.listOf (rv.set (hi - 1 - k) (Value.str (Tx (dots (heldK ds bare hi (k + 1)))) th2)).toArray n5b) :: ((D7, W.listOf gv.toArray n7) :: ((Dh, W.listOf (hearV hs).toArray nh) :: ((Dl, W.listOf (al.map Value.ref).toArray nl) :: (runsT (A ++ (p.1, p.2.1 ++ [Value.int ((ds.getD (hi - 1 - k) 0 : Nat) : Int) tn], p.2.2 + 1) :: B) ++ (hearT hs ++ ((U)))))))))))).map (·.1)) := by
      rw [runsT_cut]
      exact ⟨N_4, nd_4⟩
    refine wpAny_execs_nil ?_
    refine' turn_next (rest := []) (J := JY L' D Dl D5 D7 Dh rx n t st tu hi n7 nh nl gv al hs ds bare col u0 u1 u2 u4 c4 c5 c7 U (k + 1)) F_3 hN.1 hN.2 ([(Str.ofString "held", .str (Tx (dots (heldK ds bare hi (k + 1)))) th2), (Str.ofString "heard", .ref Dh), (Str.ofString "step", .int (st : Int) u0), (Str.ofString "turn", .int (tu : Int) u4), (Str.ofString "runs", .ref Dl), (Str.ofString "ring", .ref rx), (Str.ofString "number", .int (n : Int) u2), (Str.ofString "total", .int (t : Int) u1), (Str.ofString "heaps", .ref D)]) ((L' + 4, c4) :: ((L' + 5, c5) :: ((L' + 7, c7) :: ((D5, W.listOf (rv.set (hi - 1 - k) (Value.str (Tx (dots (heldK ds bare hi (k + 1)))) th2)).toArray n5b) :: ((D7, W.listOf gv.toArray n7) :: ((Dh, W.listOf (hearV hs).toArray nh) :: ((Dl, W.listOf (al.map Value.ref).toArray nl) :: (runsT (A ++ (p.1, p.2.1 ++ [Value.int ((ds.getD (hi - 1 - k) 0 : Nat) : Int) tn], p.2.2 + 1) :: B) ++ (hearT hs ++ ((U))))))))))) ?j ?l ?t
    case j =>
      refine ⟨th2, n5b, _, _, ?q1, ?q2, ?q3, rfl, rfl⟩
      case q1 =>
        rw [← rowsK_next hk rfl, List.map_set]
        exact txs_set hrv _
      case q2 => rw [← hal]; simp
      case q3 => exact runs_next hro hA (by simp only [if_pos (show hi - (k + 1) ≤ hi - 1 - k by lia), if_neg (show ¬ hi - k ≤ hi - 1 - k by lia)]) (fun j hj => by
        by_cases q : hi - k ≤ j
        · simp only [if_pos q, if_pos (show hi - (k + 1) ≤ j by lia)]
        · simp only [if_neg q, if_neg (show ¬ hi - (k + 1) ≤ j by lia)])
    case l => walk_at "m loc"
    case t => exact TakeAll.whole
  · intro m V T h₁ tk₁ E' j F₁ N₁ nd₁
    obtain ⟨th, n5, rv, rs, hrv, hal, hro, rfl, rfl⟩ := j
    walk_at "m go"
    try dsimp only
    refine' seg_end (kk _ _ (k _ _ ⟨th, n5, rv, rs, hrv, hal, hro, rfl, rfl⟩)) (rs := []) ‹_› ‹_› (by k_dflt assumption) ?l2 ?t2
    case l2 => walk_at "m loc"
    case t2 => exact TakeAll.whole
end E_seg_y9
end
theorem seg_y9 : ∀ {w g s p loose mean mg mb L' Q E m rest D Dl D5 D7 Dh rx n t st tu hi n5 n7 nh nl gv rv al hs ds bare col tk rs u0 u1 u2 u4 u6 th U c4 c5 c7}, E_seg_y9.P w g s p loose mean mg mb L' Q E m rest D Dl D5 D7 Dh rx n t st tu hi n5 n7 nh nl gv rv al hs ds bare col tk rs u0 u1 u2 u4 u6 th U c4 c5 c7 := fun {w g s p loose mean mg mb L' Q E m rest D Dl D5 D7 Dh rx n t st tu hi n5 n7 nh nl gv rv al hs ds bare col tk rs u0 u1 u2 u4 u6 th U c4 c5 c7} => by with_unfolding_all exact pk (c := E_seg_y9.ζ) rfl E_seg_y9.core ((((((w, g), (s, p)), ((loose, mean), (mg, mb))), (((L', Q), (E, m)), ((rest, D), (Dl, D5)))), ((((D7, Dh), (rx, n)), ((t, st), (tu, hi))), (((n5, n7), (nh, nl)), ((gv, rv), (al, hs))))), ((((ds, bare), (col, tk)), ((rs, u0), (u1, u2))), (((u4, u6), (th, U)), ((c4, c5), c7))))
end
section
noncomputable section
namespace E_seg_b22
def P (w : World) (g : Heap) (s : Shared) (p : Program) (loose : List Str) (mean : EoV) (mg mb : SoV) (L' : Addr) (Q : FsP) (E : VsP) (m : SoV) (rest : List Stmt) (U : Led) (dd : Hd) (v1 : Value) (vs : List Value) : Prop := (dd.vs = v1 :: vs) → (vs.length ≤ 20) → SegFS w g s p loose mean mg mb L' Q E m rest (lawRun 22 1 (blockOf 12 lawBody) rest) [(Str.ofString "ring", .ref dd.x)] (hdT w dd ++ U) [] (fun K => ∀ (dd' : Hd), dd'.x = dd.x → dd'.vs = vs ++ [v1] → K [(Str.ofString "ring", .ref dd.x)] (hdT w dd' ++ U))
@[irreducible] def ζ := upick (by walk_at "m ne") ((ucat un16 un1) P)
@[irreducible] def w := ζ.1.1.1.1.1
@[irreducible] def g := ζ.1.1.1.1.2
@[irreducible] def s := ζ.1.1.1.2.1
@[irreducible] def L' := ζ.1.2.1.1.1
@[irreducible] def Q := ζ.1.2.1.1.2
@[irreducible] def E := ζ.1.2.1.2.1
@[irreducible] def m := ζ.1.2.1.2.2
@[irreducible] def rest := ζ.1.2.2.1.1
@[irreducible] def dd := ζ.1.2.2.2.1
@[irreducible] def vs := ζ.2
theorem core : P w g s ζ.1.1.1.2.2 ζ.1.1.2.1.1 ζ.1.1.2.1.2 ζ.1.1.2.2.1 ζ.1.1.2.2.2 L' Q E m rest ζ.1.2.2.1.2 dd ζ.1.2.2.2.2 vs := by
  intro hdv hl X Tp F N ND K kk k
  revert X; k_fill; intro X
  show wpAny _ _ (execs (_ :: rest) _) _ _ _
  dsimp only [lawEnv, List.map] at *
  walk_at "m go"
  refine' call_spec (sp_push { dd with vs := vs, n := dd.n + 1 } hl _) ?F ?X ?Tp ?N ?nd ?tk ?hA ?_
  case F => k_asm
  case X => k_asm
  case Tp => k_asm
  case N => k_asm
  case tk => walk_at "m take"
  case nd => k_dflt assumption
  case hA => exact ale_lv (by rfl) (Nat.le_of_ble_eq_true rfl) (Nat.le_of_ble_eq_true rfl)
  k_whole
  intro v' T' h' tk' hP F' N' hND
  obtain ⟨hv, hT⟩ := hP
  subst hv
  subst hT
  dsimp only [hdT, wsT, List.cons_append, List.nil_append] at N' hND ⊢
  walk_at "m go"
  try dsimp only
  refine' segF_end (kk _ _ (k { dd with vs := vs ++ [_], n := dd.n + 1 + 1 } rfl rfl)) (rs := ?rs3) ‹_› ‹_› (by k_dflt assumption) ?l ?fr ?t
  case l => walk_at "m loc"
  case fr => walk_at "m fr"
  case t => walk_at "m take"
end E_seg_b22
end
theorem seg_b22 : ∀ {w g s p loose mean mg mb L' Q E m rest U dd v1 vs}, E_seg_b22.P w g s p loose mean mg mb L' Q E m rest U dd v1 vs := fun {w g s p loose mean mg mb L' Q E m rest U dd v1 vs} => by with_unfolding_all exact pk (c := E_seg_b22.ζ) rfl E_seg_b22.core (((((w, g), (s, p)), ((loose, mean), (mg, mb))), (((L', Q), (E, m)), ((rest, U), (dd, v1)))), vs)
end
section
theorem st_tk1 (B0 B1 : Led) (p2 p3 p4 p5 p6 p7 p8 p9 p10 p11 : Addr × Obj) (B12 B13 : Led) : TakeAll (B0 ++ (B1 ++ (p2 :: (p3 :: (p4 :: (p5 :: (p6 :: (p7 :: (p8 :: (p9 :: (p10 :: (p11 :: (B12 ++ (B13)))))))))))))) (B0 ++ (p6 :: (B1 ++ (p2 :: (p3 :: (p4 :: (p5 :: (p7 :: (p8 :: (p9 :: (p10 :: (p11 :: (B12 ++ (B13)))))))))))))) ([]) := take_blocks [B0, B1, [p2], [p3], [p4], [p5], [p6], [p7], [p8], [p9], [p10], [p11], B12, B13] 14 rfl [0, 6, 1, 2, 3, 4, 5, 7, 8, 9, 10, 11, 12, 13] [] (by decide +kernel)
theorem st_tk2 (B0 : Led) (p1 p2 : Addr × Obj) (B3 : Led) (p4 p5 p6 p7 p8 p9 p10 p11 p12 : Addr × Obj) (B13 B14 : Led) : TakeAll (B0 ++ (p1 :: (p2 :: (B3 ++ (p4 :: (p5 :: (p6 :: (p7 :: (p8 :: (p9 :: (p10 :: (p11 :: (p12 :: (B13 ++ (B14))))))))))))))) (B0 ++ (p1 :: (p2 :: (B3 ++ (p4 :: (p5 :: (p6 :: (p7 :: (p8 :: (p9 :: (p10 :: (p11 :: (p12 :: (B13 ++ (B14))))))))))))))) ([]) := take_blocks [B0, [p1], [p2], B3, [p4], [p5], [p6], [p7], [p8], [p9], [p10], [p11], [p12], B13, B14] 15 rfl [0, 1, 2, 3, 4, 5, 6, 7, 8, 9, 10, 11, 12, 13, 14] [] (by decide +kernel)
theorem st_tk3 (B0 : Led) (p1 p2 : Addr × Obj) (B3 : Led) (p4 p5 p6 p7 p8 p9 p10 p11 p12 : Addr × Obj) (B13 B14 : Led) : TakeAll (B0 ++ (p1 :: (p2 :: (B3 ++ (p4 :: (p5 :: (p6 :: (p7 :: (p8 :: (p9 :: (p10 :: (p11 :: (p12 :: (B13 ++ (B14))))))))))))))) (p1 :: (p6 :: (p5 :: (p2 :: (B0 ++ (B3 ++ (p4 :: (p7 :: (p8 :: (p9 :: (p10 :: (p11 :: (p12 :: (B13 ++ (B14))))))))))))))) ([]) := take_blocks [B0, [p1], [p2], B3, [p4], [p5], [p6], [p7], [p8], [p9], [p10], [p11], [p12], B13, B14] 15 rfl [1, 6, 5, 2, 0, 3, 4, 7, 8, 9, 10, 11, 12, 13, 14] [] (by decide +kernel)
theorem st_tk4 (p0 p1 p2 p3 p4 : Addr × Obj) (B5 B6 : Led) (p7 p8 p9 p10 p11 p12 p13 : Addr × Obj) (B14 B15 : Led) : TakeAll (p0 :: (p1 :: (p2 :: (p3 :: (p4 :: (B5 ++ (B6 ++ (p7 :: (p8 :: (p9 :: (p10 :: (p11 :: (p12 :: (p13 :: (B14 ++ (B15)))))))))))))))) (p0 :: (p8 :: (p12 :: (p1 :: (p2 :: (p3 :: (p4 :: (B5 ++ (B6 ++ (p7 :: (p9 :: (p10 :: (p11 :: (p13 :: (B14 ++ (B15)))))))))))))))) ([]) := take_blocks [[p0], [p1], [p2], [p3], [p4], B5, B6, [p7], [p8], [p9], [p10], [p11], [p12], [p13], B14, B15] 16 rfl [0, 8, 12, 1, 2, 3, 4, 5, 6, 7, 9, 10, 11, 13, 14, 15] [] (by decide +kernel)
theorem st_tk5 (p0 p1 p2 p3 p4 p5 p6 : Addr × Obj) (B7 B8 : Led) (p9 p10 p11 p12 p13 : Addr × Obj) (B14 B15 : Led) : TakeAll (p0 :: (p1 :: (p2 :: (p3 :: (p4 :: (p5 :: (p6 :: (B7 ++ (B8 ++ (p9 :: (p10 :: (p11 :: (p12 :: (p13 :: (B14 ++ (B15)))))))))))))))) (p0 :: (p1 :: (p2 :: (p3 :: (p4 :: (p5 :: (p6 :: (B7 ++ (B8 ++ (p9 :: (p10 :: (p11 :: (p12 :: (p13 :: (B14 ++ (B15)))))))))))))))) ([]) := take_blocks [[p0], [p1], [p2], [p3], [p4], [p5], [p6], B7, B8, [p9], [p10], [p11], [p12], [p13], B14, B15] 16 rfl [0, 1, 2, 3, 4, 5, 6, 7, 8, 9, 10, 11, 12, 13, 14, 15] [] (by decide +kernel)
theorem st_tk6 (p0 p1 p2 p3 p4 p5 : Addr × Obj) (B6 B7 : Led) (p8 p9 p10 p11 p12 : Addr × Obj) (B13 B14 : Led) : TakeAll (p0 :: (p1 :: (p2 :: (p3 :: (p4 :: (p5 :: (B6 ++ (B7 ++ (p8 :: (p9 :: (p10 :: (p11 :: (p12 :: (B13 ++ (B14))))))))))))))) (p4 :: (p0 :: (p1 :: (p2 :: (p3 :: (p5 :: (B6 ++ (B7 ++ (p8 :: (p9 :: (p10 :: (p11 :: (p12 :: (B13 ++ (B14))))))))))))))) ([]) := take_blocks [[p0], [p1], [p2], [p3], [p4], [p5], B6, B7, [p8], [p9], [p10], [p11], [p12], B13, B14] 15 rfl [4, 0, 1, 2, 3, 5, 6, 7, 8, 9, 10, 11, 12, 13, 14] [] (by decide +kernel)
theorem st_tk7 (B0 : Led) (p1 p2 p3 p4 p5 p6 : Addr × Obj) (B7 B8 : Led) (p9 p10 p11 p12 p13 : Addr × Obj) (B14 B15 : Led) : TakeAll (B0 ++ (p1 :: (p2 :: (p3 :: (p4 :: (p5 :: (p6 :: (B7 ++ (B8 ++ (p9 :: (p10 :: (p11 :: (p12 :: (p13 :: (B14 ++ (B15)))))))))))))))) (p10 :: (B0 ++ (p1 :: (p2 :: (p3 :: (p4 :: (p5 :: (p6 :: (B7 ++ (B8 ++ (p9 :: (p11 :: (p12 :: (p13 :: (B14 ++ (B15)))))))))))))))) ([]) := take_blocks [B0, [p1], [p2], [p3], [p4], [p5], [p6], B7, B8, [p9], [p10], [p11], [p12], [p13], B14, B15] 16 rfl [10, 0, 1, 2, 3, 4, 5, 6, 7, 8, 9, 11, 12, 13, 14, 15] [] (by decide +kernel)
theorem st_tk8 (p0 p1 : Addr × Obj) (B2 : Led) (p3 p4 p5 p6 p7 p8 : Addr × Obj) (B9 B10 : Led) (p11 p12 p13 p14 : Addr × Obj) (B15 B16 : Led) : TakeAll (p0 :: (p1 :: (B2 ++ (p3 :: (p4 :: (p5 :: (p6 :: (p7 :: (p8 :: (B9 ++ (B10 ++ (p11 :: (p12 :: (p13 :: (p14 :: (B15 ++ (B16))))))))))))))))) (B2 ++ (p7 :: (p4 :: (p6 :: (p0 :: (p5 :: (p8 :: (p1 :: (p3 :: (B9 ++ (B10 ++ (p11 :: (p12 :: (p13 :: (p14 :: (B15 ++ (B16))))))))))))))))) ([]) := take_blocks [[p0], [p1], B2, [p3], [p4], [p5], [p6], [p7], [p8], B9, B10, [p11], [p12], [p13], [p14], B15, B16] 17 rfl [2, 7, 4, 6, 0, 5, 8, 1, 3, 9, 10, 11, 12, 13, 14, 15, 16] [] (by decide +kernel)
theorem st_tk9 (B0 : Led) (p1 p2 p3 p4 p5 p6 p7 p8 : Addr × Obj) (B9 B10 : Led) (p11 p12 p13 p14 : Addr × Obj) (B15 B16 : Led) : TakeAll (B0 ++ (p1 :: (p2 :: (p3 :: (p4 :: (p5 :: (p6 :: (p7 :: (p8 :: (B9 ++ (B10 ++ (p11 :: (p12 :: (p13 :: (p14 :: (B15 ++ (B16))))))))))))))))) (B0 ++ (p1 :: (p2 :: (p3 :: (p4 :: (p5 :: (p6 :: (p7 :: (p8 :: (B9 ++ (B10 ++ (p11 :: (p12 :: (p13 :: (p14 :: (B15 ++ (B16))))))))))))))))) ([]) := take_blocks [B0, [p1], [p2], [p3], [p4], [p5], [p6], [p7], [p8], B9, B10, [p11], [p12], [p13], [p14], B15, B16] 17 rfl [0, 1, 2, 3, 4, 5, 6, 7, 8, 9, 10, 11, 12, 13, 14, 15, 16] [] (by decide +kernel)
theorem st_tk10 (B0 : Led) (p1 p2 p3 p4 p5 p6 p7 p8 : Addr × Obj) (B9 B10 : Led) (p11 p12 p13 p14 : Addr × Obj) (B15 B16 : Led) : TakeAll (B0 ++ (p1 :: (p2 :: (p3 :: (p4 :: (p5 :: (p6 :: (p7 :: (p8 :: (B9 ++ (B10 ++ (p11 :: (p12 :: (p13 :: (p14 :: (B15 ++ (B16))))))))))))))))) (B10 ++ (p12 :: (B0 ++ (p1 :: (p2 :: (p3 :: (p4 :: (p5 :: (p6 :: (p7 :: (p8 :: (B9 ++ (p11 :: (p13 :: (p14 :: (B15 ++ (B16))))))))))))))))) ([]) := take_blocks [B0, [p1], [p2], [p3], [p4], [p5], [p6], [p7], [p8], B9, B10, [p11], [p12], [p13], [p14], B15, B16] 17 rfl [10, 12, 0, 1, 2, 3, 4, 5, 6, 7, 8, 9, 11, 13, 14, 15, 16] [] (by decide +kernel)
theorem st_tk11 (B0 B1 B2 : Led) (p3 : Addr × Obj) (B4 : Led) (p5 p6 p7 p8 p9 p10 p11 p12 : Addr × Obj) (B13 : Led) (p14 p15 p16 : Addr × Obj) (B17 B18 : Led) : TakeAll (B0 ++ (B1 ++ (B2 ++ (p3 :: (B4 ++ (p5 :: (p6 :: (p7 :: (p8 :: (p9 :: (p10 :: (p11 :: (p12 :: (B13 ++ (p14 :: (p15 :: (p16 :: (B17 ++ (B18))))))))))))))))))) (B0 ++ (B1 ++ (B2 ++ (p3 :: (p5 :: (B4 ++ (p6 :: (p7 :: (p8 :: (p9 :: (p10 :: (p11 :: (p12 :: (B13 ++ (p14 :: (p15 :: (p16 :: (B17 ++ (B18))))))))))))))))))) ([]) := take_blocks [B0, B1, B2, [p3], B4, [p5], [p6], [p7], [p8], [p9], [p10], [p11], [p12], B13, [p14], [p15], [p16], B17, B18] 19 rfl [0, 1, 2, 3, 5, 4, 6, 7, 8, 9, 10, 11, 12, 13, 14, 15, 16, 17, 18] [] (by decide +kernel)
theorem st_tk12 (p0 : Addr × Obj) (B1 : Led) (p2 p3 : Addr × Obj) (B4 B5 : Led) (p6 p7 p8 p9 p10 p11 p12 : Addr × Obj) (B13 : Led) (p14 p15 p16 : Addr × Obj) (B17 B18 : Led) : TakeAll (p0 :: (B1 ++ (p2 :: (p3 :: (B4 ++ (B5 ++ (p6 :: (p7 :: (p8 :: (p9 :: (p10 :: (p11 :: (p12 :: (B13 ++ (p14 :: (p15 :: (p16 :: (B17 ++ (B18))))))))))))))))))) (p0 :: (p8 :: (p11 :: (p3 :: (B4 ++ (B1 ++ (p2 :: (B5 ++ (p6 :: (p7 :: (p9 :: (p10 :: (p12 :: (B13 ++ (p14 :: (p15 :: (p16 :: (B17 ++ (B18))))))))))))))))))) ([]) := take_blocks [[p0], B1, [p2], [p3], B4, B5, [p6], [p7], [p8], [p9], [p10], [p11], [p12], B13, [p14], [p15], [p16], B17, B18] 19 rfl [0, 8, 11, 3, 4, 1, 2, 5, 6, 7, 9, 10, 12, 13, 14, 15, 16, 17, 18] [] (by decide +kernel)
theorem st_tk13 (p0 p1 p2 p3 : Addr × Obj) (B4 B5 : Led) (p6 : Addr × Obj) (B7 : Led) (p8 p9 p10 p11 p12 : Addr × Obj) (B13 : Led) (p14 p15 p16 : Addr × Obj) (B17 B18 : Led) : TakeAll (p0 :: (p1 :: (p2 :: (p3 :: (B4 ++ (B5 ++ (p6 :: (B7 ++ (p8 :: (p9 :: (p10 :: (p11 :: (p12 :: (B13 ++ (p14 :: (p15 :: (p16 :: (B17 ++ (B18))))))))))))))))))) (p8 :: (p10 :: (p15 :: (p0 :: (p1 :: (p2 :: (p3 :: (B4 ++ (B5 ++ (p6 :: (B7 ++ (p9 :: (p11 :: (p12 :: (B13 ++ (p14 :: (p16 :: (B17 ++ (B18))))))))))))))))))) ([]) := take_blocks [[p0], [p1], [p2], [p3], B4, B5, [p6], B7, [p8], [p9], [p10], [p11], [p12], B13, [p14], [p15], [p16], B17, B18] 19 rfl [8, 10, 15, 0, 1, 2, 3, 4, 5, 6, 7, 9, 11, 12, 13, 14, 16, 17, 18] [] (by decide +kernel)
theorem st_tk14 (p0 p1 p2 p3 p4 p5 p6 p7 : Addr × Obj) (B8 B9 : Led) (p10 : Addr × Obj) (B11 : Led) (p12 p13 p14 : Addr × Obj) (B15 : Led) (p16 p17 : Addr × Obj) (B18 B19 : Led) : TakeAll (p0 :: (p1 :: (p2 :: (p3 :: (p4 :: (p5 :: (p6 :: (p7 :: (B8 ++ (B9 ++ (p10 :: (B11 ++ (p12 :: (p13 :: (p14 :: (B15 ++ (p16 :: (p17 :: (B18 ++ (B19)))))))))))))))))))) (p14 :: (p2 :: (p3 :: (p0 :: (p1 :: (p4 :: (p5 :: (p6 :: (p7 :: (B8 ++ (B9 ++ (p10 :: (B11 ++ (p12 :: (p13 :: (B15 ++ (p16 :: (p17 :: (B18 ++ (B19)))))))))))))))))))) ([]) := take_blocks [[p0], [p1], [p2], [p3], [p4], [p5], [p6], [p7], B8, B9, [p10], B11, [p12], [p13], [p14], B15, [p16], [p17], B18, B19] 20 rfl [14, 2, 3, 0, 1, 4, 5, 6, 7, 8, 9, 10, 11, 12, 13, 15, 16, 17, 18, 19] [] (by decide +kernel)
theorem st_tk15 (p0 p1 p2 p3 p4 p5 p6 p7 p8 p9 : Addr × Obj) (B10 B11 : Led) (p12 : Addr × Obj) (B13 : Led) (p14 p15 : Addr × Obj) (B16 : Led) (p17 p18 : Addr × Obj) (B19 B20 : Led) : TakeAll (p0 :: (p1 :: (p2 :: (p3 :: (p4 :: (p5 :: (p6 :: (p7 :: (p8 :: (p9 :: (B10 ++ (B11 ++ (p12 :: (B13 ++ (p14 :: (p15 :: (B16 ++ (p17 :: (p18 :: (B19 ++ (B20))))))))))))))))))))) (p9 :: (p4 :: (p7 :: (p5 :: (p8 :: (p0 :: (p1 :: (p2 :: (p3 :: (p6 :: (B10 ++ (B11 ++ (p12 :: (B13 ++ (p14 :: (p15 :: (B16 ++ (p17 :: (p18 :: (B19 ++ (B20))))))))))))))))))))) ([]) := take_blocks [[p0], [p1], [p2], [p3], [p4], [p5], [p6], [p7], [p8], [p9], B10, B11, [p12], B13, [p14], [p15], B16, [p17], [p18], B19, B20] 21 rfl [9, 4, 7, 5, 8, 0, 1, 2, 3, 6, 10, 11, 12, 13, 14, 15, 16, 17, 18, 19, 20] [] (by decide +kernel)
theorem st_tk16 (p0 p1 p2 p3 p4 p5 p6 p7 p8 p9 p10 : Addr × Obj) (B11 B12 : Led) (p13 : Addr × Obj) (B14 : Led) (p15 p16 : Addr × Obj) (B17 : Led) (p18 p19 : Addr × Obj) (B20 B21 : Led) : TakeAll (p0 :: (p1 :: (p2 :: (p3 :: (p4 :: (p5 :: (p6 :: (p7 :: (p8 :: (p9 :: (p10 :: (B11 ++ (B12 ++ (p13 :: (B14 ++ (p15 :: (p16 :: (B17 ++ (p18 :: (p19 :: (B20 ++ (B21)))))))))))))))))))))) (p0 :: (p1 :: (p2 :: (p3 :: (p4 :: (p5 :: (p6 :: (p7 :: (p8 :: (p9 :: (p10 :: (B11 ++ (B12 ++ (p13 :: (B14 ++ (p15 :: (p16 :: (B17 ++ (p18 :: (p19 :: (B20 ++ (B21)))))))))))))))))))))) ([]) := take_blocks [[p0], [p1], [p2], [p3], [p4], [p5], [p6], [p7], [p8], [p9], [p10], B11, B12, [p13], B14, [p15], [p16], B17, [p18], [p19], B20, B21] 22 rfl [0, 1, 2, 3, 4, 5, 6, 7, 8, 9, 10, 11, 12, 13, 14, 15, 16, 17, 18, 19, 20, 21] [] (by decide +kernel)
theorem st_tk17 (p0 p1 p2 p3 p4 p5 p6 p7 p8 p9 p10 : Addr × Obj) (B11 B12 : Led) (p13 : Addr × Obj) (B14 : Led) (p15 p16 : Addr × Obj) (B17 : Led) (p18 p19 : Addr × Obj) (B20 B21 : Led) : TakeAll (p0 :: (p1 :: (p2 :: (p3 :: (p4 :: (p5 :: (p6 :: (p7 :: (p8 :: (p9 :: (p10 :: (B11 ++ (B12 ++ (p13 :: (B14 ++ (p15 :: (p16 :: (B17 ++ (p18 :: (p19 :: (B20 ++ (B21)))))))))))))))))))))) (p18 :: (p0 :: (p1 :: (p2 :: (p3 :: (p4 :: (p5 :: (p6 :: (p7 :: (p8 :: (p9 :: (p10 :: (B11 ++ (B12 ++ (p13 :: (B14 ++ (p15 :: (p16 :: (B17 ++ (p19 :: (B20 ++ (B21)))))))))))))))))))))) ([]) := take_blocks [[p0], [p1], [p2], [p3], [p4], [p5], [p6], [p7], [p8], [p9], [p10], B11, B12, [p13], B14, [p15], [p16], B17, [p18], [p19], B20, B21] 22 rfl [18, 0, 1, 2, 3, 4, 5, 6, 7, 8, 9, 10, 11, 12, 13, 14, 15, 16, 17, 19, 20, 21] [] (by decide +kernel)
theorem st_tk18 (p0 p1 p2 p3 p4 p5 p6 p7 p8 p9 p10 p11 : Addr × Obj) (B12 B13 : Led) (p14 : Addr × Obj) (B15 : Led) (p16 p17 : Addr × Obj) (B18 : Led) (p19 : Addr × Obj) (B20 B21 : Led) : TakeAll (p0 :: (p1 :: (p2 :: (p3 :: (p4 :: (p5 :: (p6 :: (p7 :: (p8 :: (p9 :: (p10 :: (p11 :: (B12 ++ (B13 ++ (p14 :: (B15 ++ (p16 :: (p17 :: (B18 ++ (p19 :: (B20 ++ (B21)))))))))))))))))))))) (p0 :: (p1 :: (p2 :: (p3 :: (p4 :: (p5 :: (p6 :: (p7 :: (p8 :: (p9 :: (p10 :: (p11 :: (B12 ++ (B13 ++ (p14 :: (B15 ++ (p16 :: (p17 :: (B18 ++ (p19 :: (B20 ++ (B21)))))))))))))))))))))) ([]) := take_blocks [[p0], [p1], [p2], [p3], [p4], [p5], [p6], [p7], [p8], [p9], [p10], [p11], B12, B13, [p14], B15, [p16], [p17], B18, [p19], B20, B21] 22 rfl [0, 1, 2, 3, 4, 5, 6, 7, 8, 9, 10, 11, 12, 13, 14, 15, 16, 17, 18, 19, 20, 21] [] (by decide +kernel)
theorem st_tk19 (p0 p1 p2 p3 p4 p5 p6 p7 p8 p9 p10 p11 : Addr × Obj) (B12 B13 : Led) (p14 : Addr × Obj) (B15 : Led) (p16 p17 : Addr × Obj) (B18 : Led) (p19 : Addr × Obj) (B20 B21 : Led) : TakeAll (p0 :: (p1 :: (p2 :: (p3 :: (p4 :: (p5 :: (p6 :: (p7 :: (p8 :: (p9 :: (p10 :: (p11 :: (B12 ++ (B13 ++ (p14 :: (B15 ++ (p16 :: (p17 :: (B18 ++ (p19 :: (B20 ++ (B21)))))))))))))))))))))) (p2 :: (p3 :: (p4 :: (p5 :: (p6 :: (p11 :: (p19 :: (B20 ++ (B12 ++ (p0 :: (p1 :: (p7 :: (p8 :: (p9 :: (p10 :: (B13 ++ (p14 :: (B15 ++ (p16 :: (p17 :: (B18 ++ (B21)))))))))))))))))))))) ([]) := take_blocks [[p0], [p1], [p2], [p3], [p4], [p5], [p6], [p7], [p8], [p9], [p10], [p11], B12, B13, [p14], B15, [p16], [p17], B18, [p19], B20, B21] 22 rfl [2, 3, 4, 5, 6, 11, 19, 20, 12, 0, 1, 7, 8, 9, 10, 13, 14, 15, 16, 17, 18, 21] [] (by decide +kernel)
theorem st_tk20 (p0 p1 p2 p3 p4 p5 p6 : Addr × Obj) (B7 B8 : Led) (p9 p10 p11 p12 p13 p14 : Addr × Obj) (B15 : Led) (p16 : Addr × Obj) (B17 : Led) (p18 p19 : Addr × Obj) (B20 B21 : Led) : TakeAll (p0 :: (p1 :: (p2 :: (p3 :: (p4 :: (p5 :: (p6 :: (B7 ++ (B8 ++ (p9 :: (p10 :: (p11 :: (p12 :: (p13 :: (p14 :: (B15 ++ (p16 :: (B17 ++ (p18 :: (p19 :: (B20 ++ (B21)))))))))))))))))))))) (B20 ++ (p0 :: (p1 :: (p2 :: (p3 :: (p4 :: (p5 :: (p6 :: (B7 ++ (B8 ++ (p9 :: (p10 :: (p11 :: (p12 :: (p13 :: (p14 :: (B15 ++ (p16 :: (B17 ++ (p18 :: (p19 :: (B21)))))))))))))))))))))) ([]) := take_blocks [[p0], [p1], [p2], [p3], [p4], [p5], [p6], B7, B8, [p9], [p10], [p11], [p12], [p13], [p14], B15, [p16], B17, [p18], [p19], B20, B21] 22 rfl [20, 0, 1, 2, 3, 4, 5, 6, 7, 8, 9, 10, 11, 12, 13, 14, 15, 16, 17, 18, 19, 21] [] (by decide +kernel)
theorem st_tk21 (B0 : Led) (p1 p2 p3 p4 p5 p6 p7 : Addr × Obj) (B8 B9 : Led) (p10 p11 p12 p13 p14 p15 : Addr × Obj) (B16 : Led) (p17 : Addr × Obj) (B18 : Led) (p19 p20 : Addr × Obj) (B21 : Led) : TakeAll (B0 ++ (p1 :: (p2 :: (p3 :: (p4 :: (p5 :: (p6 :: (p7 :: (B8 ++ (B9 ++ (p10 :: (p11 :: (p12 :: (p13 :: (p14 :: (p15 :: (B16 ++ (p17 :: (B18 ++ (p19 :: (p20 :: (B21)))))))))))))))))))))) (B0 ++ (B16 ++ (p10 :: (p13 :: (p1 :: (p2 :: (p19 :: (p3 :: (p17 :: (p14 :: (p4 :: (p7 :: (B8 ++ (B21)))))))))))))) (p5 :: (p6 :: (B9 ++ (p11 :: (p12 :: (p15 :: (B18 ++ ([p20])))))))) := take_blocks [B0, [p1], [p2], [p3], [p4], [p5], [p6], [p7], B8, B9, [p10], [p11], [p12], [p13], [p14], [p15], B16, [p17], B18, [p19], [p20], B21] 22 rfl [0, 16, 10, 13, 1, 2, 19, 3, 17, 14, 4, 7, 8, 21] [5, 6, 9, 11, 12, 15, 18, 20] (by decide +kernel)
noncomputable section
namespace E_seg_step
def P (w : World) (g : Heap) (s : Shared) (p : Program) (loose : List Str) (mean : EoV) (mg mb : SoV) (L' : Addr) (Q : FsP) (E : VsP) (m : SoV) (rest : List Stmt) (D Dl D5 : Addr) (dd : Hd) (tb : Tb) (n t st tu wd hi ba n5 nr : Nat) (rv : List Value) (al : List Addr) (rs : List (Addr × List Value × Nat)) (bl : List Bool) (ds ls ps : List Nat) (bare : Nat → Bool) (col R tk : Nat → List Nat) (u0 u1 u2 u3 u4 u5 u6 : Tok) (x6 x7 x8 x9 : Option Value) (U : Led) (c2 c3 c4 c5 c6 c7 c8 c9 : Obj) : Prop := (4 ≤ t) → (t ≤ 6) → (wd ≤ 6) → (hi ≤ 6) → (hi ≤ t) → (ba ≤ 8) → (st ≤ 5) → (tu ≤ 11) → (n ≤ 62) → (bl.length = t) → (TxsAre dd.vs (bl.reverse.map bitW)) → (TbOk tb) → ((List.range hi).map (dueN bl wd hi) = ds) → (∀ d ∈ ds, d ≤ 6) → (st = 0 ∨ TxsAre rv (ds.map dots)) → (rs.map (·.1) = al) → (al.length = hi) → (∀ i, (col i).length ≤ st) → (RunsOk rs col) → (∀ i < hi, bl.getD ((i + t - 1) % t) false = bare i) → (∀ i < hi, decide (ds.getD i 0 < if i = 0 then wd else ds.getD (i - 1) 0) = bare i) → (quoteL (txU (itsOf ds bare (st + tu)) (st + tu / 3) hi) = snU (itsOf ds bare (st + tu)) hi) → (R 0 = snU (itsOf ds bare (st + tu)) hi) → (∀ c ∈ snU (itsOf ds bare (st + tu)) hi, c < 128) → (∀ k ≤ hi, ∃ W tl, R k = W ++ tl ∧ (∀ c ∈ W, isW c = true) ∧ Tail tl (tk k) (R (k + 1)) ∧ (∀ c ∈ W ++ tl, c < 128) ∧ (W ++ tl).length ≤ 1000 ∧ nl W = if k = 0 then 0 else 1) → ((itsOf ds bare (st + tu)).map tokP = (List.range hi).map tk) → (∀ i < hi, tk i = if bare i then 46 :: dots (ds.getD i 0) else dots (ds.getD i 0)) → (tk hi = []) → (∀ k, ∀ c ∈ tk k, c < 128) → (lackW (wsOf (runsL (intsN ds))).cs wd = ls) → (ls.length ≤ 6) → (∀ l ∈ ls, l ≤ 6) → ((List.range hi).filter bare ++ ls.map (hi + ·) = ps) → (ps.length ≤ 6) → (∀ p ∈ ps, p ≤ 5) → (1 ≤ rotN t n) → (rotN t n ≤ 62) → (rotN t n * 2 ^ ba < 16384) → (flagsL (rotN t n * 2 ^ ba) = joinL [44, 32] (ps.map fun k => nameL (ba + k))) → (c2.data = .cell (some (.int (ba : Int) u3))) → (c3.data = .cell (some (.int (wd : Int) u5))) → (c4.data = .cell (some (.int (hi : Int) u6))) → (c5.data = .cell (some (.ref D5))) → (c6.data = .cell x6) → (c7.data = .cell x7) → (c8.data = .cell x8) → (c9.data = .cell x9) → SegKS w g s p loose mean mg mb L' Q E m rest (lawRun 0 23 (blockOf 12 lawBody) rest) [(Str.ofString "step", .int (st : Int) u0), (Str.ofString "runs", .ref Dl), (Str.ofString "ring", .ref dd.x), (Str.ofString "turn", .int (tu : Int) u4), (Str.ofString "number", .int (n : Int) u2), (Str.ofString "total", .int (t : Int) u1), (Str.ofString "heaps", .ref D)] (hdT w dd ++ (tbT tb ++ ((L' + 2, c2) :: ((L' + 3, c3) :: ((L' + 4, c4) :: ((L' + 5, c5) :: ((L' + 6, c6) :: ((L' + 7, c7) :: ((L' + 8, c8) :: ((L' + 9, c9) :: ((D5, W.listOf rv.toArray n5) :: ((Dl, W.listOf (al.map Value.ref).toArray nr) :: (runsT rs ++ ((U))))))))))))))) (fun K => ∀ (dd' : Hd) (D5' : Addr) (n5' : Nat) (rv' : List Value) (rs' : List (Addr × List Value × Nat)) (u2' : Tok) (c5' c6' c7' c8' c9' : Obj) (x6' x7' x8' x9' : Option Value), dd'.x = dd.x → TxsAre dd'.vs ((bl.dropLast.reverse ++ [bl.getLastD false]).map bitW) → c5'.data = .cell (some (.ref D5')) → c6'.data = .cell x6' → c7'.data = .cell x7' → c8'.data = .cell x8' → c9'.data = .cell x9' → TxsAre rv' ((rowsK ds bare hi hi).map dots) → rs'.map (·.1) = al → RunsOk rs' (fun i => if hi - hi ≤ i then col i ++ [ds.getD i 0] else col i) → K [(Str.ofString "runs", .ref Dl), (Str.ofString "ring", .ref dd.x), (Str.ofString "turn", .int (tu : Int) u4), (Str.ofString "number", .int ((rotN t n : Nat) : Int) u2'), (Str.ofString "total", .int (t : Int) u1), (Str.ofString "heaps", .ref D)] (hdT w dd' ++ (tbT tb ++ ((L' + 2, c2) :: ((L' + 3, c3) :: ((L' + 4, c4) :: ((L' + 5, c5') :: ((L' + 6, c6') :: ((L' + 7, c7') :: ((L' + 8, c8') :: ((L' + 9, c9') :: ((D5', W.listOf rv'.toArray n5') :: ((Dl, W.listOf (al.map Value.ref).toArray nr) :: (runsT rs' ++ ((U))))))))))))))))
@[irreducible] def ζ := upick (by walk_at "m ne") ((ucat un32 (ucat un16 (ucat un8 un2))) P)
@[irreducible] def w := ζ.1.1.1.1.1.1
@[irreducible] def g := ζ.1.1.1.1.1.2
@[irreducible] def s := ζ.1.1.1.1.2.1
@[irreducible] def L' := ζ.1.1.2.1.1.1
@[irreducible] def Q := ζ.1.1.2.1.1.2
@[irreducible] def E := ζ.1.1.2.1.2.1
@[irreducible] def m := ζ.1.1.2.1.2.2
@[irreducible] def rest := ζ.1.1.2.2.1.1
@[irreducible] def D := ζ.1.1.2.2.1.2
@[irreducible] def Dl := ζ.1.1.2.2.2.1
@[irreducible] def D5 := ζ.1.1.2.2.2.2
@[irreducible] def dd := ζ.1.2.1.1.1.1
@[irreducible] def tb := ζ.1.2.1.1.1.2
@[irreducible] def n := ζ.1.2.1.1.2.1
@[irreducible] def t := ζ.1.2.1.1.2.2
@[irreducible] def st := ζ.1.2.1.2.1.1
@[irreducible] def tu := ζ.1.2.1.2.1.2
@[irreducible] def hi := ζ.1.2.1.2.2.2
@[irreducible] def n5 := ζ.1.2.2.1.1.2
@[irreducible] def nr := ζ.1.2.2.1.2.1
@[irreducible] def rv := ζ.1.2.2.1.2.2
@[irreducible] def al := ζ.1.2.2.2.1.1
@[irreducible] def rs := ζ.1.2.2.2.1.2
@[irreducible] def ds := ζ.1.2.2.2.2.2
@[irreducible] def bare := ζ.2.1.1.1.2.1
@[irreducible] def u0 := ζ.2.1.1.2.2.1
@[irreducible] def u1 := ζ.2.1.1.2.2.2
@[irreducible] def u2 := ζ.2.1.2.1.1.1
@[irreducible] def u4 := ζ.2.1.2.1.2.1
@[irreducible] def U := ζ.2.2.1.1.1.2
@[irreducible] def c2 := ζ.2.2.1.1.2.1
@[irreducible] def c3 := ζ.2.2.1.1.2.2
@[irreducible] def c4 := ζ.2.2.1.2.1.1
@[irreducible] def c5 := ζ.2.2.1.2.1.2
@[irreducible] def c6 := ζ.2.2.1.2.2.1
@[irreducible] def c7 := ζ.2.2.1.2.2.2
@[irreducible] def c8 := ζ.2.2.2.1
@[irreducible] def c9 := ζ.2.2.2.2
theorem core : P w g s ζ.1.1.1.1.2.2 ζ.1.1.1.2.1.1 ζ.1.1.1.2.1.2 ζ.1.1.1.2.2.1 ζ.1.1.1.2.2.2 L' Q E m rest D Dl D5 dd tb n t st tu ζ.1.2.1.2.2.1 hi ζ.1.2.2.1.1.1 n5 nr rv al rs ζ.1.2.2.2.2.1 ds ζ.2.1.1.1.1.1 ζ.2.1.1.1.1.2 bare ζ.2.1.1.1.2.2 ζ.2.1.1.2.1.1 ζ.2.1.1.2.1.2 u0 u1 u2 ζ.2.1.2.1.1.2 u4 ζ.2.1.2.1.2.2 ζ.2.1.2.2.1.1 ζ.2.1.2.2.1.2 ζ.2.1.2.2.2.1 ζ.2.1.2.2.2.2 ζ.2.2.1.1.1.1 U c2 c3 c4 c5 c6 c7 c8 c9 := by
  intro ht4 ht6 hw hh hht hba hst htu hn hbl hring htb hds hdb hrv hal hall hcl hro hb1 hb2 hq hR0 hs128 hR htks htki htkl htk128 hlack hll hl6 hpl hpl6 hp5 hn1 hn2 hf1 heq d2 d3 d4 d5 d6 d7 d8 d9 X Tp F N ND K kk k
  revert X; k_fill; intro X
  show wpAny _ _ (execs (lawRun 0 1 (blockOf 12 lawBody) (lawRun 1 1 (blockOf 12 lawBody) (lawRun 2 1 (blockOf 12 lawBody) (lawRun 3 1 (blockOf 12 lawBody) (lawRun 4 1 (blockOf 12 lawBody) (lawRun 5 2 (blockOf 12 lawBody) (lawRun 7 3 (blockOf 12 lawBody) (lawRun 10 1 (blockOf 12 lawBody) (lawRun 11 1 (blockOf 12 lawBody) (lawRun 12 1 (blockOf 12 lawBody) (lawRun 13 1 (blockOf 12 lawBody) (lawRun 14 1 (blockOf 12 lawBody) (lawRun 15 1 (blockOf 12 lawBody) (lawRun 16 1 (blockOf 12 lawBody) (lawRun 17 1 (blockOf 12 lawBody) (lawRun 18 1 (blockOf 12 lawBody) (lawRun 19 1 (blockOf 12 lawBody) (lawRun 20 1 (blockOf 12 lawBody) (lawRun 21 1 (blockOf 12 lawBody) (lawRun 22 1 (blockOf 12 lawBody) rest)))))))))))))))))))) _) _ _ _
  dsimp only [lawEnv, List.map] at *
  have hvl : dd.vs.length = t := by have := StrsAre.length hring; rw [this]; simp [hbl]
  have hlv : TxsAre dd.vs.reverse (ζ.1.2.2.2.2.1.map bitW) := by have := txs_rev hring; rwa [← List.map_reverse, List.reverse_reverse] at this
  have hvl2 : dd.vs.reverse.length = t := by rw [List.length_reverse]; exact hvl
  have hll6 : dd.vs.reverse.length ≤ 6 := by lia
  have hdl : ds.length = hi := by rw [← hds]; simp
  have hdl6 : ds.length ≤ 6 := by lia
  have hits := snd_le hdb bare (st + tu)
  have htl := txU_len hits (st + tu / 3) hi hh
  have hsl := snU_len hits hi hh
  have hbb : ∀ i < hi, ∃ tl, dd.vs.reverse[(i + t - 1) % t]? = some (.str (Tx (bitW (bare i))) tl) := fun i hi' => txs_get hlv (by
    have hm : (i + t - 1) % t < t := Nat.mod_lt _ (by lia)
    rw [List.getElem?_map, ← hb1 i hi', List.getD_eq_getElem?_getD, List.getElem?_eq_getElem (by lia)]; rfl)
  have hcs : (wsOf (runsL (intsN ds))).cs.length ≤ 300 := (ws_le (by
    have := runs_len (ns := intsN ds) (B := 6) (ints_le hdb (by decide))
    have e : (intsN ds).length = ds.length := by simp [intsN]
    rw [e] at this; lia)).2
  have htk2 : ∀ i < hi, bare i = true → ζ.2.1.1.2.1.2 i = 46 :: dots (ds.getD i 0) := fun i hi' hb => by rw [htki i hi', if_pos hb]
  obtain ⟨v1, vs1, hvs⟩ : ∃ v1 vs1, dd.vs = v1 :: vs1 := List.exists_cons_of_length_pos (by lia)
  have hvs2 : vs1.length ≤ 20 := by rw [hvs] at hvl; simp at hvl; lia
  rename (Fr _ _ _ _) => F
  rename (News _ _ _ _) => N
  have sb_0 := Stt.of (V := [(Str.ofString "step", .int (st : Int) u0), (Str.ofString "runs", .ref Dl), (Str.ofString "ring", .ref dd.x), (Str.ofString "turn", .int (tu : Int) u4), (Str.ofString "number", .int (n : Int) u2), (Str.ofString "total", .int (t : Int) u1), (Str.ofString "heaps", .ref D)]) F N ND
  refine useK (fun m => seg_b1a (m := m) (U := tbT tb ++ ((L' + 2, c2) :: ((L' + 3, c3) :: ((L' + 4, c4) :: ((L' + 5, c5) :: ((L' + 7, c7) :: ((L' + 8, c8) :: ((L' + 9, c9) :: ((D5, W.listOf rv.toArray n5) :: ((Dl, W.listOf (al.map Value.ref).toArray nr) :: (runsT rs ++ ((U))))))))))))) ht4 ht6 hvl d6) X Tp sb_0 (fun _ => ⟨rfl, rfl, rfl, rfl, rfl, rfl, rfl, trivial⟩) (st_tk1 (hdT w dd) (tbT tb) (L' + 2, c2) (L' + 3, c3) (L' + 4, c4) (L' + 5, c5) (L' + 6, c6) (L' + 7, c7) (L' + 8, c8) (L' + 9, c9) (D5, W.listOf rv.toArray n5) (Dl, W.listOf (al.map Value.ref).toArray nr) (runsT rs) (U)) ?_
  intro D6 n6 c6b d6b h_1 tk_1 st_1
  show wpAny _ _ _ _ _ { s with heap := h_1, toks := tk_1 }
  refine useK (fun m => seg_b1 (m := m) (U := tbT tb ++ ((L' + 2, c2) :: ((L' + 3, c3) :: ((L' + 4, c4) :: ((L' + 5, c5) :: ((L' + 7, c7) :: ((L' + 8, c8) :: ((L' + 9, c9) :: ((D5, W.listOf rv.toArray n5) :: ((Dl, W.listOf (al.map Value.ref).toArray nr) :: (runsT rs ++ ((U))))))))))))) ht4 ht6 hvl d6b) X Tp st_1 (fun _ => ⟨rfl, rfl, rfl, rfl, rfl, rfl, rfl, trivial⟩) (st_tk2 (hdT w dd) (L' + 6, c6b) (D6, W.listOf (#[] : Array Value) n6) (tbT tb) (L' + 2, c2) (L' + 3, c3) (L' + 4, c4) (L' + 5, c5) (L' + 7, c7) (L' + 8, c8) (L' + 9, c9) (D5, W.listOf rv.toArray n5) (Dl, W.listOf (al.map Value.ref).toArray nr) (runsT rs) (U)) ?_
  intro dd1 n6b hx1 hv1 h_2 tk_2 st_2
  show wpAny _ _ _ _ _ { s with heap := h_2, toks := tk_2 }
  obtain ⟨⟨m_2, F_2⟩, N_2, nd_2⟩ := st_2
  rw [← hx1] at F_2
  have sb_2 := Stt.of (V := [(Str.ofString "step", .int (st : Int) u0), (Str.ofString "runs", .ref Dl), (Str.ofString "ring", .ref dd1.x), (Str.ofString "turn", .int (tu : Int) u4), (Str.ofString "number", .int (n : Int) u2), (Str.ofString "total", .int (t : Int) u1), (Str.ofString "heaps", .ref D)]) F_2 N_2 nd_2
  refine useK (fun m => seg_b3 (m := m) (U := hdT w dd1 ++ (tbT tb ++ ((L' + 2, c2) :: ((L' + 5, c5) :: ((L' + 7, c7) :: ((L' + 8, c8) :: ((L' + 9, c9) :: ((D5, W.listOf rv.toArray n5) :: ((Dl, W.listOf (al.map Value.ref).toArray nr) :: (runsT rs ++ ((U)))))))))))) ht6 hw hh hbl hlv hll6 d6b d4 d3) X Tp sb_2 (fun _ => ⟨rfl, rfl, rfl, rfl, rfl, rfl, rfl, trivial⟩) (st_tk3 (hdT w dd1) (L' + 6, c6b) (D6, W.listOf dd.vs.reverse.toArray n6b) (tbT tb) (L' + 2, c2) (L' + 3, c3) (L' + 4, c4) (L' + 5, c5) (L' + 7, c7) (L' + 8, c8) (L' + 9, c9) (D5, W.listOf rv.toArray n5) (Dl, W.listOf (al.map Value.ref).toArray nr) (runsT rs) (U)) ?_
  intro Dd dv hdv h_3 tk_3 st_3
  show wpAny _ _ _ _ _ { s with heap := h_3, toks := tk_3 }
  rw [hds] at hdv
  refine useF [Str.ofString "due", Str.ofString "step"] [(Str.ofString "runs", .ref Dl), (Str.ofString "ring", .ref dd1.x), (Str.ofString "turn", .int (tu : Int) u4), (Str.ofString "number", .int (n : Int) u2), (Str.ofString "total", .int (t : Int) u1), (Str.ofString "heaps", .ref D)] (fun m => seg_b4a (m := m) (U := (L' + 6, c6b) :: ((L' + 4, c4) :: ((L' + 3, c3) :: ((D6, W.listOf dd.vs.reverse.toArray n6b) :: (hdT w dd1 ++ (tbT tb ++ ((L' + 2, c2) :: ((L' + 7, c7) :: ((L' + 8, c8) :: ((L' + 9, c9) :: ((Dl, W.listOf (al.map Value.ref).toArray nr) :: (runsT rs ++ ((U)))))))))))))) hdv hdl6 hdb hrv d5) X Tp st_3 (fun _ => ⟨rfl, rfl, trivial⟩) (st_tk4 (Dd, W.listOf dv.toArray dv.length) (L' + 6, c6b) (L' + 4, c4) (L' + 3, c3) (D6, W.listOf dd.vs.reverse.toArray n6b) (hdT w dd1) (tbT tb) (L' + 2, c2) (L' + 5, c5) (L' + 7, c7) (L' + 8, c8) (L' + 9, c9) (D5, W.listOf rv.toArray n5) (Dl, W.listOf (al.map Value.ref).toArray nr) (runsT rs) (U)) (by rfl) ?_
  intro D5b rvb n5b c5b d5b hrvb h_4 tk_4 st_4
  show wpAny _ _ _ _ _ { s with heap := h_4, toks := tk_4 }
  refine useF [Str.ofString "due", Str.ofString "step", Str.ofString "due"] [(Str.ofString "runs", .ref Dl), (Str.ofString "ring", .ref dd1.x), (Str.ofString "turn", .int (tu : Int) u4), (Str.ofString "number", .int (n : Int) u2), (Str.ofString "total", .int (t : Int) u1), (Str.ofString "heaps", .ref D)] (fun m => seg_b4b (m := m) (U := (L' + 6, c6b) :: ((L' + 4, c4) :: ((L' + 3, c3) :: ((D6, W.listOf dd.vs.reverse.toArray n6b) :: (hdT w dd1 ++ (tbT tb ++ ((L' + 2, c2) :: ((L' + 7, c7) :: ((L' + 8, c8) :: ((L' + 9, c9) :: ((Dl, W.listOf (al.map Value.ref).toArray nr) :: (runsT rs ++ ((U)))))))))))))) hdv hdl6 hdb hrvb d5b) X Tp st_4 (fun _ => ⟨rfl, rfl, trivial⟩) (st_tk5 (Dd, W.listOf dv.toArray dv.length) (L' + 5, c5b) (D5b, W.listOf rvb.toArray n5b) (L' + 6, c6b) (L' + 4, c4) (L' + 3, c3) (D6, W.listOf dd.vs.reverse.toArray n6b) (hdT w dd1) (tbT tb) (L' + 2, c2) (L' + 7, c7) (L' + 8, c8) (L' + 9, c9) (Dl, W.listOf (al.map Value.ref).toArray nr) (runsT rs) (U)) (by rfl) ?_
  intro h_5 tk_5 st_5
  show wpAny _ _ _ _ _ { s with heap := h_5, toks := tk_5 }
  refine useF [Str.ofString "ahead", Str.ofString "kind", Str.ofString "step", Str.ofString "turn"] [(Str.ofString "due", .ref Dd), (Str.ofString "runs", .ref Dl), (Str.ofString "ring", .ref dd1.x), (Str.ofString "number", .int (n : Int) u2), (Str.ofString "total", .int (t : Int) u1), (Str.ofString "heaps", .ref D)] (fun m => seg_b5 (m := m) (U := (L' + 5, c5b) :: ((D5b, W.listOf rvb.toArray n5b) :: ((L' + 6, c6b) :: ((L' + 4, c4) :: ((D6, W.listOf dd.vs.reverse.toArray n6b) :: (hdT w dd1 ++ (tbT tb ++ ((L' + 2, c2) :: ((L' + 7, c7) :: ((L' + 8, c8) :: ((L' + 9, c9) :: ((Dl, W.listOf (al.map Value.ref).toArray nr) :: (runsT rs ++ ((U))))))))))))))) hw (by lia) htu d3) X Tp st_5 (fun _ => ⟨rfl, rfl, trivial⟩) (st_tk6 (L' + 5, c5b) (D5b, W.listOf rvb.toArray n5b) (L' + 6, c6b) (L' + 4, c4) (L' + 3, c3) (D6, W.listOf dd.vs.reverse.toArray n6b) (hdT w dd1) (tbT tb) (L' + 2, c2) (L' + 7, c7) (L' + 8, c8) (L' + 9, c9) (Dl, W.listOf (al.map Value.ref).toArray nr) (runsT rs) (U)) (by rfl) ?_
  intro xa da oa uk hoa hda h_6 tk_6 st_6
  show wpAny _ _ _ _ _ { s with heap := h_6, toks := tk_6 }
  refine useF [Str.ofString "sent", Str.ofString "text"] [(Str.ofString "ahead", .ref xa), (Str.ofString "kind", .int (((st / 2 + tu) % 2 : Nat) : Int) uk), (Str.ofString "step", .int (st : Int) u0), (Str.ofString "turn", .int (tu : Int) u4), (Str.ofString "due", .ref Dd), (Str.ofString "runs", .ref Dl), (Str.ofString "ring", .ref dd1.x), (Str.ofString "number", .int (n : Int) u2), (Str.ofString "total", .int (t : Int) u1), (Str.ofString "heaps", .ref D)] (fun m => seg_b7 (m := m) (U := wsT w xa da ++ ((L' + 3, c3) :: ((L' + 5, c5b) :: ((D5b, W.listOf rvb.toArray n5b) :: ((L' + 6, c6b) :: ((L' + 4, c4) :: ((D6, W.listOf dd.vs.reverse.toArray n6b) :: (hdT w dd1 ++ (tbT tb ++ ((L' + 2, c2) :: ((L' + 8, c8) :: ((L' + 9, c9) :: ((Dl, W.listOf (al.map Value.ref).toArray nr) :: (runsT rs ++ ((U)))))))))))))))) d7) X Tp st_6 (fun _ => trivial) (st_tk7 (wsT w xa da) (L' + 3, c3) (L' + 5, c5b) (D5b, W.listOf rvb.toArray n5b) (L' + 6, c6b) (L' + 4, c4) (D6, W.listOf dd.vs.reverse.toArray n6b) (hdT w dd1) (tbT tb) (L' + 2, c2) (L' + 7, c7) (L' + 8, c8) (L' + 9, c9) (Dl, W.listOf (al.map Value.ref).toArray nr) (runsT rs) (U)) (by rfl) ?_
  intro ta ts D7 n7 c7b d7b h_7 tk_7 st_7
  show wpAny _ _ _ _ _ { s with heap := h_7, toks := tk_7 }
  refine useK (fun m => seg_x9 (m := m) (U := (L' + 3, c3) :: (hdT w dd1 ++ (tbT tb ++ ((L' + 2, c2) :: ((L' + 8, c8) :: ((L' + 9, c9) :: ((Dl, W.listOf (al.map Value.ref).toArray nr) :: (runsT rs ++ ((U)))))))))) hh hdl hdb (by lia) ht6 (by lia) htu (by lia) hw hoa hda hrvb hvl2 hbb hb2 d4 d5b d6b d7b hht) X Tp st_7 (fun _ => ⟨rfl, rfl, rfl, rfl, rfl, rfl, rfl, rfl, rfl, rfl, rfl, trivial⟩) (st_tk8 (L' + 7, c7b) (D7, W.listOf (#[] : Array Value) n7) (wsT w xa da) (L' + 3, c3) (L' + 5, c5b) (D5b, W.listOf rvb.toArray n5b) (L' + 6, c6b) (L' + 4, c4) (D6, W.listOf dd.vs.reverse.toArray n6b) (hdT w dd1) (tbT tb) (L' + 2, c2) (L' + 8, c8) (L' + 9, c9) (Dl, W.listOf (al.map Value.ref).toArray nr) (runsT rs) (U)) ?_
  intro V_8 T_8 j_8 h_8 tk_8 st_8
  show wpAny _ _ _ _ _ { s with heap := h_8, toks := tk_8 }
  obtain ⟨xa2, da2, o2, n72, ta2, ts2, gv, ho2, hda2, hgv, rfl, rfl⟩ := j_8
  have hgv2 : TxsAre gv ((List.range hi).map ζ.2.1.1.2.1.2) := by
    rw [List.take_of_length_le (by rw [its_len]; lia), htks] at hgv; exact hgv
  have hrow2 : ∀ i < hi, ∃ t, rvb[i]? = some (.str (Tx (dots (ds.getD i 0))) t) := fun i hi' => txs_get hrvb (by rw [List.getElem?_map, List.getD_eq_getElem?_getD, List.getElem?_eq_getElem (by lia)]; rfl)
  have hgro2 : ∀ i < hi, ∃ t, gv[i]? = some (.str (Tx (if bare i then 46 :: dots (ds.getD i 0) else dots (ds.getD i 0))) t) := fun i hi' => txs_get hgv2 (by rw [List.getElem?_map, List.getElem?_range hi', Option.map_some, htki i hi'])
  refine useF [Str.ofString "text", Str.ofString "sent"] [(Str.ofString "ahead", .ref xa2), (Str.ofString "kind", .int (((st / 2 + tu) % 2 : Nat) : Int) uk), (Str.ofString "step", .int (st : Int) u0), (Str.ofString "turn", .int (tu : Int) u4), (Str.ofString "runs", .ref Dl), (Str.ofString "ring", .ref dd1.x), (Str.ofString "number", .int (n : Int) u2), (Str.ofString "total", .int (t : Int) u1), (Str.ofString "heaps", .ref D)] (fun m => seg_b11 (m := m) (U := wsT w xa2 da2 ++ ((L' + 4, c4) :: ((L' + 5, c5b) :: ((L' + 6, c6b) :: ((L' + 7, c7b) :: ((D5b, W.listOf rvb.toArray n5b) :: ((D6, W.listOf dd.vs.reverse.toArray n6b) :: ((D7, W.listOf gv.toArray n72) :: ((L' + 3, c3) :: (hdT w dd1 ++ (tbT tb ++ ((L' + 2, c2) :: ((L' + 8, c8) :: ((L' + 9, c9) :: ((Dl, W.listOf (al.map Value.ref).toArray nr) :: (runsT rs ++ ((U)))))))))))))))))) hq (by lia)) X Tp st_8 (fun _ => ⟨rfl, rfl, trivial⟩) (st_tk9 (wsT w xa2 da2) (L' + 4, c4) (L' + 5, c5b) (L' + 6, c6b) (L' + 7, c7b) (D5b, W.listOf rvb.toArray n5b) (D6, W.listOf dd.vs.reverse.toArray n6b) (D7, W.listOf gv.toArray n72) (L' + 3, c3) (hdT w dd1) (tbT tb) (L' + 2, c2) (L' + 8, c8) (L' + 9, c9) (Dl, W.listOf (al.map Value.ref).toArray nr) (runsT rs) (U)) (by rfl) ?_
  intro h_9 tk_9 st_9
  show wpAny _ _ _ _ _ { s with heap := h_9, toks := tk_9 }
  refine useF [Str.ofString "sent"] [(Str.ofString "text", .str (Tx (txU (itsOf ds bare (st + tu)) (st + tu / 3) hi)) ta2), (Str.ofString "ahead", .ref xa2), (Str.ofString "kind", .int (((st / 2 + tu) % 2 : Nat) : Int) uk), (Str.ofString "step", .int (st : Int) u0), (Str.ofString "turn", .int (tu : Int) u4), (Str.ofString "runs", .ref Dl), (Str.ofString "ring", .ref dd1.x), (Str.ofString "number", .int (n : Int) u2), (Str.ofString "total", .int (t : Int) u1), (Str.ofString "heaps", .ref D)] (fun m => seg_b12 (m := m) (U := wsT w xa2 da2 ++ ((L' + 4, c4) :: ((L' + 5, c5b) :: ((L' + 6, c6b) :: ((L' + 7, c7b) :: ((D5b, W.listOf rvb.toArray n5b) :: ((D6, W.listOf dd.vs.reverse.toArray n6b) :: ((D7, W.listOf gv.toArray n72) :: ((L' + 3, c3) :: (hdT w dd1 ++ ((L' + 2, c2) :: ((L' + 9, c9) :: ((Dl, W.listOf (al.map Value.ref).toArray nr) :: (runsT rs ++ ((U)))))))))))))))) hs128 (by lia) htb d8) X Tp st_9 (fun _ => ⟨rfl, trivial⟩) (st_tk10 (wsT w xa2 da2) (L' + 4, c4) (L' + 5, c5b) (L' + 6, c6b) (L' + 7, c7b) (D5b, W.listOf rvb.toArray n5b) (D6, W.listOf dd.vs.reverse.toArray n6b) (D7, W.listOf gv.toArray n72) (L' + 3, c3) (hdT w dd1) (tbT tb) (L' + 2, c2) (L' + 8, c8) (L' + 9, c9) (Dl, W.listOf (al.map Value.ref).toArray nr) (runsT rs) (U)) (by rfl) ?_
  intro dl el c8b d8b q1 q2 q3 q4 h_10 tk_10 st_10
  show wpAny _ _ _ _ _ { s with heap := h_10, toks := tk_10 }
  refine useF [Str.ofString "heard"] [(Str.ofString "sent", .str (Tx (snU (itsOf ds bare (st + tu)) hi)) ts2), (Str.ofString "text", .str (Tx (txU (itsOf ds bare (st + tu)) (st + tu / 3) hi)) ta2), (Str.ofString "ahead", .ref xa2), (Str.ofString "kind", .int (((st / 2 + tu) % 2 : Nat) : Int) uk), (Str.ofString "step", .int (st : Int) u0), (Str.ofString "turn", .int (tu : Int) u4), (Str.ofString "runs", .ref Dl), (Str.ofString "ring", .ref dd1.x), (Str.ofString "number", .int (n : Int) u2), (Str.ofString "total", .int (t : Int) u1), (Str.ofString "heaps", .ref D)] (fun m => seg_b13 (m := m) (U := wsT w xa2 da2 ++ ((L' + 5, c5b) :: ((L' + 6, c6b) :: ((L' + 7, c7b) :: ((D5b, W.listOf rvb.toArray n5b) :: ((D6, W.listOf dd.vs.reverse.toArray n6b) :: ((D7, W.listOf gv.toArray n72) :: ((L' + 3, c3) :: (hdT w dd1 ++ ((L' + 2, c2) :: ((L' + 9, c9) :: ((Dl, W.listOf (al.map Value.ref).toArray nr) :: (runsT rs ++ ((U))))))))))))))) hh q1 q2 q3 (hR0.symm ▸ q4) hR d8b d4) X Tp st_10 (fun _ => trivial) (st_tk11 (hdT w dl) (stT el) (tbT tb) (L' + 8, c8b) (wsT w xa2 da2) (L' + 4, c4) (L' + 5, c5b) (L' + 6, c6b) (L' + 7, c7b) (D5b, W.listOf rvb.toArray n5b) (D6, W.listOf dd.vs.reverse.toArray n6b) (D7, W.listOf gv.toArray n72) (L' + 3, c3) (hdT w dd1) (L' + 2, c2) (L' + 9, c9) (Dl, W.listOf (al.map Value.ref).toArray nr) (runsT rs) (U)) (by rfl) ?_
  intro Dh hs hdd h_11 tk_11 st_11
  show wpAny _ _ _ _ _ { s with heap := h_11, toks := tk_11 }
  refine useF [Str.ofString "heard"] [(Str.ofString "sent", .str (Tx (snU (itsOf ds bare (st + tu)) hi)) ts2), (Str.ofString "text", .str (Tx (txU (itsOf ds bare (st + tu)) (st + tu / 3) hi)) ta2), (Str.ofString "ahead", .ref xa2), (Str.ofString "kind", .int (((st / 2 + tu) % 2 : Nat) : Int) uk), (Str.ofString "step", .int (st : Int) u0), (Str.ofString "turn", .int (tu : Int) u4), (Str.ofString "runs", .ref Dl), (Str.ofString "ring", .ref dd1.x), (Str.ofString "number", .int (n : Int) u2), (Str.ofString "total", .int (t : Int) u1), (Str.ofString "heaps", .ref D)] (fun m => seg_b14 (m := m) (U := tbT tb ++ ((L' + 8, c8b) :: (wsT w xa2 da2 ++ ((L' + 5, c5b) :: ((L' + 6, c6b) :: ((D5b, W.listOf rvb.toArray n5b) :: ((D6, W.listOf dd.vs.reverse.toArray n6b) :: ((L' + 3, c3) :: (hdT w dd1 ++ ((L' + 2, c2) :: ((L' + 9, c9) :: ((Dl, W.listOf (al.map Value.ref).toArray nr) :: (runsT rs ++ ((U))))))))))))))) hh hdd hgv2 htkl htk128 d7b d4) X Tp st_11 (fun _ => ⟨rfl, trivial⟩) (st_tk12 (Dh, W.listOf (hearV hs).toArray (hearV hs).length) (tbT tb) (L' + 8, c8b) (L' + 4, c4) (hearT hs) (wsT w xa2 da2) (L' + 5, c5b) (L' + 6, c6b) (L' + 7, c7b) (D5b, W.listOf rvb.toArray n5b) (D6, W.listOf dd.vs.reverse.toArray n6b) (D7, W.listOf gv.toArray n72) (L' + 3, c3) (hdT w dd1) (L' + 2, c2) (L' + 9, c9) (Dl, W.listOf (al.map Value.ref).toArray nr) (runsT rs) (U)) (by rfl) ?_
  intro h_12 tk_12 st_12
  show wpAny _ _ _ _ _ { s with heap := h_12, toks := tk_12 }
  refine useF [] [(Str.ofString "heard", .ref Dh), (Str.ofString "sent", .str (Tx (snU (itsOf ds bare (st + tu)) hi)) ts2), (Str.ofString "text", .str (Tx (txU (itsOf ds bare (st + tu)) (st + tu / 3) hi)) ta2), (Str.ofString "ahead", .ref xa2), (Str.ofString "kind", .int (((st / 2 + tu) % 2 : Nat) : Int) uk), (Str.ofString "step", .int (st : Int) u0), (Str.ofString "turn", .int (tu : Int) u4), (Str.ofString "runs", .ref Dl), (Str.ofString "ring", .ref dd1.x), (Str.ofString "number", .int (n : Int) u2), (Str.ofString "total", .int (t : Int) u1), (Str.ofString "heaps", .ref D)] (fun m => seg_b15 (m := m) (U := (Dh, W.listOf (hearV hs).toArray (hearV hs).length) :: ((L' + 7, c7b) :: ((D7, W.listOf gv.toArray n72) :: ((L' + 4, c4) :: (hearT hs ++ (tbT tb ++ ((L' + 8, c8b) :: (wsT w xa2 da2 ++ ((L' + 6, c6b) :: ((D6, W.listOf dd.vs.reverse.toArray n6b) :: ((L' + 3, c3) :: (hdT w dd1 ++ ((L' + 2, c2) :: ((Dl, W.listOf (al.map Value.ref).toArray nr) :: (runsT rs ++ ((U))))))))))))))))) hdl6 hdb hrvb d5b d9) X Tp st_12 (fun _ => trivial) (st_tk13 (Dh, W.listOf (hearV hs).toArray (hearV hs).length) (L' + 7, c7b) (D7, W.listOf gv.toArray n72) (L' + 4, c4) (hearT hs) (tbT tb) (L' + 8, c8b) (wsT w xa2 da2) (L' + 5, c5b) (L' + 6, c6b) (D5b, W.listOf rvb.toArray n5b) (D6, W.listOf dd.vs.reverse.toArray n6b) (L' + 3, c3) (hdT w dd1) (L' + 2, c2) (L' + 9, c9) (Dl, W.listOf (al.map Value.ref).toArray nr) (runsT rs) (U)) (by rfl) ?_
  intro ct cv c9b d9b hcv h_13 tk_13 st_13
  show wpAny _ _ _ _ _ { s with heap := h_13, toks := tk_13 }
  refine useF [Str.ofString "lacking"] [(Str.ofString "heard", .ref Dh), (Str.ofString "sent", .str (Tx (snU (itsOf ds bare (st + tu)) hi)) ts2), (Str.ofString "text", .str (Tx (txU (itsOf ds bare (st + tu)) (st + tu / 3) hi)) ta2), (Str.ofString "ahead", .ref xa2), (Str.ofString "kind", .int (((st / 2 + tu) % 2 : Nat) : Int) uk), (Str.ofString "step", .int (st : Int) u0), (Str.ofString "turn", .int (tu : Int) u4), (Str.ofString "runs", .ref Dl), (Str.ofString "ring", .ref dd1.x), (Str.ofString "number", .int (n : Int) u2), (Str.ofString "total", .int (t : Int) u1), (Str.ofString "heaps", .ref D)] (fun m => seg_b16 (m := m) (U := (L' + 5, c5b) :: ((D5b, W.listOf rvb.toArray n5b) :: ((Dh, W.listOf (hearV hs).toArray (hearV hs).length) :: ((L' + 7, c7b) :: ((D7, W.listOf gv.toArray n72) :: ((L' + 4, c4) :: (hearT hs ++ (tbT tb ++ ((L' + 8, c8b) :: (wsT w xa2 da2 ++ ((L' + 6, c6b) :: ((D6, W.listOf dd.vs.reverse.toArray n6b) :: (hdT w dd1 ++ ((L' + 2, c2) :: ((Dl, W.listOf (al.map Value.ref).toArray nr) :: (runsT rs ++ ((U)))))))))))))))))) hw hcs hcv d3 d9b) X Tp st_13 (fun _ => trivial) (st_tk14 (L' + 5, c5b) (D5b, W.listOf rvb.toArray n5b) (L' + 9, c9b) (ct, tupOf cv 0) (Dh, W.listOf (hearV hs).toArray (hearV hs).length) (L' + 7, c7b) (D7, W.listOf gv.toArray n72) (L' + 4, c4) (hearT hs) (tbT tb) (L' + 8, c8b) (wsT w xa2 da2) (L' + 6, c6b) (D6, W.listOf dd.vs.reverse.toArray n6b) (L' + 3, c3) (hdT w dd1) (L' + 2, c2) (Dl, W.listOf (al.map Value.ref).toArray nr) (runsT rs) (U)) (by rfl) ?_
  intro Dk lk hlk h_14 tk_14 st_14
  show wpAny _ _ _ _ _ { s with heap := h_14, toks := tk_14 }
  rw [hlack] at hlk
  refine useF [Str.ofString "places", Str.ofString "lacking"] [(Str.ofString "heard", .ref Dh), (Str.ofString "sent", .str (Tx (snU (itsOf ds bare (st + tu)) hi)) ts2), (Str.ofString "text", .str (Tx (txU (itsOf ds bare (st + tu)) (st + tu / 3) hi)) ta2), (Str.ofString "ahead", .ref xa2), (Str.ofString "kind", .int (((st / 2 + tu) % 2 : Nat) : Int) uk), (Str.ofString "step", .int (st : Int) u0), (Str.ofString "turn", .int (tu : Int) u4), (Str.ofString "runs", .ref Dl), (Str.ofString "ring", .ref dd1.x), (Str.ofString "number", .int (n : Int) u2), (Str.ofString "total", .int (t : Int) u1), (Str.ofString "heaps", .ref D)] (fun m => seg_b17 (m := m) (U := (L' + 3, c3) :: ((L' + 9, c9b) :: ((ct, tupOf cv 0) :: ((Dh, W.listOf (hearV hs).toArray (hearV hs).length) :: (hearT hs ++ (tbT tb ++ ((L' + 8, c8b) :: (wsT w xa2 da2 ++ ((L' + 6, c6b) :: ((D6, W.listOf dd.vs.reverse.toArray n6b) :: (hdT w dd1 ++ ((L' + 2, c2) :: ((Dl, W.listOf (al.map Value.ref).toArray nr) :: (runsT rs ++ ((U)))))))))))))))) hh hll hl6 hrow2 hgro2 hlk d4 d5b d7b) X Tp st_14 (fun _ => ⟨rfl, trivial⟩) (st_tk15 (Dk, W.listOf lk.toArray lk.length) (L' + 3, c3) (L' + 9, c9b) (ct, tupOf cv 0) (L' + 5, c5b) (D5b, W.listOf rvb.toArray n5b) (Dh, W.listOf (hearV hs).toArray (hearV hs).length) (L' + 7, c7b) (D7, W.listOf gv.toArray n72) (L' + 4, c4) (hearT hs) (tbT tb) (L' + 8, c8b) (wsT w xa2 da2) (L' + 6, c6b) (D6, W.listOf dd.vs.reverse.toArray n6b) (hdT w dd1) (L' + 2, c2) (Dl, W.listOf (al.map Value.ref).toArray nr) (runsT rs) (U)) (by rfl) ?_
  intro Dp pv hpv h_15 tk_15 st_15
  show wpAny _ _ _ _ _ { s with heap := h_15, toks := tk_15 }
  rw [hpl] at hpv
  refine useF [Str.ofString "number", Str.ofString "total"] [(Str.ofString "places", .ref Dp), (Str.ofString "lacking", .ref Dk), (Str.ofString "heard", .ref Dh), (Str.ofString "sent", .str (Tx (snU (itsOf ds bare (st + tu)) hi)) ts2), (Str.ofString "text", .str (Tx (txU (itsOf ds bare (st + tu)) (st + tu / 3) hi)) ta2), (Str.ofString "ahead", .ref xa2), (Str.ofString "kind", .int (((st / 2 + tu) % 2 : Nat) : Int) uk), (Str.ofString "step", .int (st : Int) u0), (Str.ofString "turn", .int (tu : Int) u4), (Str.ofString "runs", .ref Dl), (Str.ofString "ring", .ref dd1.x), (Str.ofString "heaps", .ref D)] (fun m => seg_b18 (m := m) (U := (Dp, W.listOf pv.toArray 0) :: ((L' + 4, c4) :: ((L' + 5, c5b) :: ((L' + 7, c7b) :: ((D5b, W.listOf rvb.toArray n5b) :: ((D7, W.listOf gv.toArray n72) :: ((Dk, W.listOf lk.toArray lk.length) :: ((L' + 3, c3) :: ((L' + 9, c9b) :: ((ct, tupOf cv 0) :: ((Dh, W.listOf (hearV hs).toArray (hearV hs).length) :: (hearT hs ++ (tbT tb ++ ((L' + 8, c8b) :: (wsT w xa2 da2 ++ ((L' + 6, c6b) :: ((D6, W.listOf dd.vs.reverse.toArray n6b) :: (hdT w dd1 ++ ((L' + 2, c2) :: ((Dl, W.listOf (al.map Value.ref).toArray nr) :: (runsT rs ++ ((U))))))))))))))))))))))) ht4 ht6 hn) X Tp st_15 (fun _ => ⟨rfl, rfl, trivial⟩) (st_tk16 (Dp, W.listOf pv.toArray 0) (L' + 4, c4) (L' + 5, c5b) (L' + 7, c7b) (D5b, W.listOf rvb.toArray n5b) (D7, W.listOf gv.toArray n72) (Dk, W.listOf lk.toArray lk.length) (L' + 3, c3) (L' + 9, c9b) (ct, tupOf cv 0) (Dh, W.listOf (hearV hs).toArray (hearV hs).length) (hearT hs) (tbT tb) (L' + 8, c8b) (wsT w xa2 da2) (L' + 6, c6b) (D6, W.listOf dd.vs.reverse.toArray n6b) (hdT w dd1) (L' + 2, c2) (Dl, W.listOf (al.map Value.ref).toArray nr) (runsT rs) (U)) (by rfl) ?_
  intro u2b h_16 tk_16 st_16
  show wpAny _ _ _ _ _ { s with heap := h_16, toks := tk_16 }
  refine useF [Str.ofString "number", Str.ofString "places"] [(Str.ofString "total", .int (t : Int) u1), (Str.ofString "lacking", .ref Dk), (Str.ofString "heard", .ref Dh), (Str.ofString "sent", .str (Tx (snU (itsOf ds bare (st + tu)) hi)) ts2), (Str.ofString "text", .str (Tx (txU (itsOf ds bare (st + tu)) (st + tu / 3) hi)) ta2), (Str.ofString "ahead", .ref xa2), (Str.ofString "kind", .int (((st / 2 + tu) % 2 : Nat) : Int) uk), (Str.ofString "step", .int (st : Int) u0), (Str.ofString "turn", .int (tu : Int) u4), (Str.ofString "runs", .ref Dl), (Str.ofString "ring", .ref dd1.x), (Str.ofString "heaps", .ref D)] (fun m => seg_b19 (m := m) (U := (L' + 4, c4) :: ((L' + 5, c5b) :: ((L' + 7, c7b) :: ((D5b, W.listOf rvb.toArray n5b) :: ((D7, W.listOf gv.toArray n72) :: ((Dk, W.listOf lk.toArray lk.length) :: ((L' + 3, c3) :: ((L' + 9, c9b) :: ((ct, tupOf cv 0) :: ((Dh, W.listOf (hearV hs).toArray (hearV hs).length) :: (hearT hs ++ (tbT tb ++ ((L' + 8, c8b) :: (wsT w xa2 da2 ++ ((L' + 6, c6b) :: ((D6, W.listOf dd.vs.reverse.toArray n6b) :: (hdT w dd1 ++ ((Dl, W.listOf (al.map Value.ref).toArray nr) :: (runsT rs ++ ((U))))))))))))))))))))) hn1 hn2 hba hpl6 hp5 hpv hf1 heq d2) X Tp st_16 (fun _ => ⟨rfl, rfl, trivial⟩) (st_tk17 (Dp, W.listOf pv.toArray 0) (L' + 4, c4) (L' + 5, c5b) (L' + 7, c7b) (D5b, W.listOf rvb.toArray n5b) (D7, W.listOf gv.toArray n72) (Dk, W.listOf lk.toArray lk.length) (L' + 3, c3) (L' + 9, c9b) (ct, tupOf cv 0) (Dh, W.listOf (hearV hs).toArray (hearV hs).length) (hearT hs) (tbT tb) (L' + 8, c8b) (wsT w xa2 da2) (L' + 6, c6b) (D6, W.listOf dd.vs.reverse.toArray n6b) (hdT w dd1) (L' + 2, c2) (Dl, W.listOf (al.map Value.ref).toArray nr) (runsT rs) (U)) (by rfl) ?_
  intro h_17 tk_17 st_17
  show wpAny _ _ _ _ _ { s with heap := h_17, toks := tk_17 }
  refine useF [Str.ofString "held"] [(Str.ofString "number", .int ((rotN t n : Nat) : Int) u2b), (Str.ofString "places", .ref Dp), (Str.ofString "total", .int (t : Int) u1), (Str.ofString "lacking", .ref Dk), (Str.ofString "heard", .ref Dh), (Str.ofString "sent", .str (Tx (snU (itsOf ds bare (st + tu)) hi)) ts2), (Str.ofString "text", .str (Tx (txU (itsOf ds bare (st + tu)) (st + tu / 3) hi)) ta2), (Str.ofString "ahead", .ref xa2), (Str.ofString "kind", .int (((st / 2 + tu) % 2 : Nat) : Int) uk), (Str.ofString "step", .int (st : Int) u0), (Str.ofString "turn", .int (tu : Int) u4), (Str.ofString "runs", .ref Dl), (Str.ofString "ring", .ref dd1.x), (Str.ofString "heaps", .ref D)] (fun m => seg_b20 (m := m) (U := (L' + 2, c2) :: ((Dp, W.listOf pv.toArray 0) :: ((L' + 4, c4) :: ((L' + 5, c5b) :: ((L' + 7, c7b) :: ((D5b, W.listOf rvb.toArray n5b) :: ((D7, W.listOf gv.toArray n72) :: ((Dk, W.listOf lk.toArray lk.length) :: ((L' + 3, c3) :: ((L' + 9, c9b) :: ((ct, tupOf cv 0) :: ((Dh, W.listOf (hearV hs).toArray (hearV hs).length) :: (hearT hs ++ (tbT tb ++ ((L' + 8, c8b) :: (wsT w xa2 da2 ++ ((L' + 6, c6b) :: ((D6, W.listOf dd.vs.reverse.toArray n6b) :: (hdT w dd1 ++ ((Dl, W.listOf (al.map Value.ref).toArray nr) :: (runsT rs ++ ((U))))))))))))))))))))))) ) X Tp st_17 (fun _ => trivial) (st_tk18 (L' + 2, c2) (Dp, W.listOf pv.toArray 0) (L' + 4, c4) (L' + 5, c5b) (L' + 7, c7b) (D5b, W.listOf rvb.toArray n5b) (D7, W.listOf gv.toArray n72) (Dk, W.listOf lk.toArray lk.length) (L' + 3, c3) (L' + 9, c9b) (ct, tupOf cv 0) (Dh, W.listOf (hearV hs).toArray (hearV hs).length) (hearT hs) (tbT tb) (L' + 8, c8b) (wsT w xa2 da2) (L' + 6, c6b) (D6, W.listOf dd.vs.reverse.toArray n6b) (hdT w dd1) (Dl, W.listOf (al.map Value.ref).toArray nr) (runsT rs) (U)) (by rfl) ?_
  intro th h_18 tk_18 st_18
  show wpAny _ _ _ _ _ { s with heap := h_18, toks := tk_18 }
  refine useK (fun m => seg_y9 (m := m) (U := (L' + 2, c2) :: ((Dp, W.listOf pv.toArray 0) :: ((Dk, W.listOf lk.toArray lk.length) :: ((L' + 3, c3) :: ((L' + 9, c9b) :: ((ct, tupOf cv 0) :: (tbT tb ++ ((L' + 8, c8b) :: (wsT w xa2 da2 ++ ((L' + 6, c6b) :: ((D6, W.listOf dd.vs.reverse.toArray n6b) :: (hdT w dd1 ++ ((U)))))))))))))) hh hdl hdb hrvb hal hall hst hcl hro hdd hgro2 htk2 d4 d5b d7b) X Tp st_18 (fun _ => ⟨rfl, rfl, rfl, rfl, rfl, rfl, rfl, rfl, rfl, trivial⟩) (st_tk19 (L' + 2, c2) (Dp, W.listOf pv.toArray 0) (L' + 4, c4) (L' + 5, c5b) (L' + 7, c7b) (D5b, W.listOf rvb.toArray n5b) (D7, W.listOf gv.toArray n72) (Dk, W.listOf lk.toArray lk.length) (L' + 3, c3) (L' + 9, c9b) (ct, tupOf cv 0) (Dh, W.listOf (hearV hs).toArray (hearV hs).length) (hearT hs) (tbT tb) (L' + 8, c8b) (wsT w xa2 da2) (L' + 6, c6b) (D6, W.listOf dd.vs.reverse.toArray n6b) (hdT w dd1) (Dl, W.listOf (al.map Value.ref).toArray nr) (runsT rs) (U)) ?_
  intro V_19 T_19 j_19 h_19 tk_19 st_19
  show wpAny _ _ _ _ _ { s with heap := h_19, toks := tk_19 }
  obtain ⟨th3, n5c, rvc, rsc, hrvc, halc, hroc, rfl, rfl⟩ := j_19
  refine useF [Str.ofString "ring"] [(Str.ofString "held", .str (Tx (dots (heldK ds bare hi hi))) th3), (Str.ofString "heard", .ref Dh), (Str.ofString "step", .int (st : Int) u0), (Str.ofString "turn", .int (tu : Int) u4), (Str.ofString "runs", .ref Dl), (Str.ofString "number", .int ((rotN t n : Nat) : Int) u2b), (Str.ofString "total", .int (t : Int) u1), (Str.ofString "heaps", .ref D)] (fun m => seg_b22 (m := m) (U := (L' + 4, c4) :: ((L' + 5, c5b) :: ((L' + 7, c7b) :: ((D5b, W.listOf rvc.toArray n5c) :: ((D7, W.listOf gv.toArray n72) :: ((Dh, W.listOf (hearV hs).toArray (hearV hs).length) :: ((Dl, W.listOf (al.map Value.ref).toArray nr) :: (runsT rsc ++ (hearT hs ++ ((L' + 2, c2) :: ((Dp, W.listOf pv.toArray 0) :: ((Dk, W.listOf lk.toArray lk.length) :: ((L' + 3, c3) :: ((L' + 9, c9b) :: ((ct, tupOf cv 0) :: (tbT tb ++ ((L' + 8, c8b) :: (wsT w xa2 da2 ++ ((L' + 6, c6b) :: ((D6, W.listOf dd.vs.reverse.toArray n6b) :: ((U)))))))))))))))))))))) (hv1.trans hvs) hvs2) X Tp st_19 (fun _ => ⟨rfl, trivial⟩) (st_tk20 (L' + 4, c4) (L' + 5, c5b) (L' + 7, c7b) (D5b, W.listOf rvc.toArray n5c) (D7, W.listOf gv.toArray n72) (Dh, W.listOf (hearV hs).toArray (hearV hs).length) (Dl, W.listOf (al.map Value.ref).toArray nr) (runsT rsc) (hearT hs) (L' + 2, c2) (Dp, W.listOf pv.toArray 0) (Dk, W.listOf lk.toArray lk.length) (L' + 3, c3) (L' + 9, c9b) (ct, tupOf cv 0) (tbT tb) (L' + 8, c8b) (wsT w xa2 da2) (L' + 6, c6b) (D6, W.listOf dd.vs.reverse.toArray n6b) (hdT w dd1) (U)) (by rfl) ?_
  intro dd2 hx2 hv2 h_20 tk_20 st_20
  show wpAny _ _ _ _ _ { s with heap := h_20, toks := tk_20 }
  obtain ⟨⟨m_20, F_20⟩, N_20, nd_20⟩ := st_20
  obtain ⟨N_21, nd_21⟩ := take2 N_20 nd_20 (st_tk21 (hdT w dd2) (L' + 4, c4) (L' + 5, c5b) (L' + 7, c7b) (D5b, W.listOf rvc.toArray n5c) (D7, W.listOf gv.toArray n72) (Dh, W.listOf (hearV hs).toArray (hearV hs).length) (Dl, W.listOf (al.map Value.ref).toArray nr) (runsT rsc) (hearT hs) (L' + 2, c2) (Dp, W.listOf pv.toArray 0) (Dk, W.listOf lk.toArray lk.length) (L' + 3, c3) (L' + 9, c9b) (ct, tupOf cv 0) (tbT tb) (L' + 8, c8b) (wsT w xa2 da2) (L' + 6, c6b) (D6, W.listOf dd.vs.reverse.toArray n6b) (U))
  rw [hx1] at F_20
  refine kk _ _ (k dd2 D5b n5c rvc rsc u2b c5b c6b c7b c8b c9b _ _ _ _ (hx2.trans hx1) ?q1 d5b d6b d7b d8b d9b hrvc halc hroc) _ _ _ (fr_loc (V := [(Str.ofString "runs", .ref Dl), (Str.ofString "ring", .ref dd.x), (Str.ofString "turn", .int (tu : Int) u4), (Str.ofString "number", .int ((rotN t n : Nat) : Int) u2b), (Str.ofString "total", .int (t : Int) u1), (Str.ofString "heaps", .ref D)]) F_20 ⟨rfl, rfl, rfl, rfl, rfl, rfl, trivial⟩) N_21 nd_21
  case q1 => exact ring_turn hring hvs hv2
end E_seg_step
end
theorem seg_step : ∀ {w g s p loose mean mg mb L' Q E m rest D Dl D5 dd tb n t st tu wd hi ba n5 nr rv al rs bl ds ls ps bare col R tk u0 u1 u2 u3 u4 u5 u6 x6 x7 x8 x9 U c2 c3 c4 c5 c6 c7 c8 c9}, E_seg_step.P w g s p loose mean mg mb L' Q E m rest D Dl D5 dd tb n t st tu wd hi ba n5 nr rv al rs bl ds ls ps bare col R tk u0 u1 u2 u3 u4 u5 u6 x6 x7 x8 x9 U c2 c3 c4 c5 c6 c7 c8 c9 := fun {w g s p loose mean mg mb L' Q E m rest D Dl D5 dd tb n t st tu wd hi ba n5 nr rv al rs bl ds ls ps bare col R tk u0 u1 u2 u3 u4 u5 u6 x6 x7 x8 x9 U c2 c3 c4 c5 c6 c7 c8 c9} => by with_unfolding_all exact pk (c := E_seg_step.ζ) rfl E_seg_step.core ((((((w, g), (s, p)), ((loose, mean), (mg, mb))), (((L', Q), (E, m)), ((rest, D), (Dl, D5)))), ((((dd, tb), (n, t)), ((st, tu), (wd, hi))), (((ba, n5), (nr, rv)), ((al, rs), (bl, ds))))), (((((ls, ps), (bare, col)), ((R, tk), (u0, u1))), (((u2, u3), (u4, u5)), ((u6, x6), (x7, x8)))), ((((x9, U), (c2, c3)), ((c4, c5), (c6, c7))), (c8, c9))))
end
section
inductive JS (w : World) (L' rx D Dl : Addr) (n t tu nr : Nat) (tb : Tb) (al : List Addr) (u1 u4 : Tok) (c2 c3 c4 : Obj) (U : List (Addr × Obj)) (st : Nat) (V : List (Str × Value)) (T : List (Addr × Obj)) : Prop
  | mk (dd : Hd) (D5 : Addr) (n5 : Nat) (rv : List Value) (rs : List (Addr × List Value × Nat)) (u2 : Tok) (c5 c6 c7 c8 c9 : Obj) (x6 x7 x8 x9 : Option Value) (q0 : dd.x = rx) (q1 : TxsAre dd.vs ((bitsN t (numN t n st)).reverse.map bitW)) (q2 : c5.data = .cell (some (.ref D5))) (q3 : c6.data = .cell x6) (q4 : c7.data = .cell x7) (q5 : c8.data = .cell x8) (q6 : c9.data = .cell x9) (q7 : (st = 0 ∨ TxsAre rv ((duesN t (numN t n st)).map dots))) (q8 : rs.map (·.1) = al) (q9 : RunsOk rs (fun i => (List.range st).map fun q => (duesN t (numN t n q)).getD i 0)) (q10 : V = [(Str.ofString "runs", .ref Dl), (Str.ofString "ring", .ref rx), (Str.ofString "turn", .int (tu : Int) u4), (Str.ofString "number", .int ((numN t n st) : Int) u2), (Str.ofString "total", .int (t : Int) u1), (Str.ofString "heaps", .ref D)]) (q11 : T = hdT w dd ++ (tbT tb ++ ((L' + 2, c2) :: ((L' + 3, c3) :: ((L' + 4, c4) :: ((L' + 5, c5) :: ((L' + 6, c6) :: ((L' + 7, c7) :: ((L' + 8, c8) :: ((L' + 9, c9) :: ((D5, W.listOf rv.toArray n5) :: ((Dl, W.listOf (al.map Value.ref).toArray nr) :: (runsT rs ++ ((U))))))))))))))) : JS w L' rx D Dl n t tu nr tb al u1 u4 c2 c3 c4 U st V T
theorem sl_tk1 (p0 : Addr × Obj) (B1 B2 : Led) (p3 p4 p5 p6 p7 p8 p9 p10 p11 p12 : Addr × Obj) (B13 B14 : Led) : TakeAll (p0 :: (B1 ++ (B2 ++ (p3 :: (p4 :: (p5 :: (p6 :: (p7 :: (p8 :: (p9 :: (p10 :: (p11 :: (p12 :: (B13 ++ (B14))))))))))))))) (B1 ++ (B2 ++ (p3 :: (p4 :: (p5 :: (p6 :: (p7 :: (p8 :: (p9 :: (p10 :: (p11 :: (p12 :: (B13 ++ (p0 :: (B14))))))))))))))) ([]) := take_blocks [[p0], B1, B2, [p3], [p4], [p5], [p6], [p7], [p8], [p9], [p10], [p11], [p12], B13, B14] 15 rfl [1, 2, 3, 4, 5, 6, 7, 8, 9, 10, 11, 12, 13, 0, 14] [] (by decide +kernel)
theorem slb_tk1 (B0 B1 : Led) (p2 p3 p4 p5 p6 p7 p8 p9 p10 p11 : Addr × Obj) (B12 : Led) (p13 : Addr × Obj) (B14 : Led) : TakeAll (B0 ++ (B1 ++ (p2 :: (p3 :: (p4 :: (p5 :: (p6 :: (p7 :: (p8 :: (p9 :: (p10 :: (p11 :: (B12 ++ (p13 :: (B14))))))))))))))) (p13 :: (B0 ++ (B1 ++ (p2 :: (p3 :: (p4 :: (p5 :: (p6 :: (p7 :: (p8 :: (p9 :: (p10 :: (p11 :: (B12 ++ (B14))))))))))))))) ([]) := take_blocks [B0, B1, [p2], [p3], [p4], [p5], [p6], [p7], [p8], [p9], [p10], [p11], B12, [p13], B14] 15 rfl [13, 0, 1, 2, 3, 4, 5, 6, 7, 8, 9, 10, 11, 12, 14] [] (by decide +kernel)
noncomputable section
namespace E_seg_l
def P (w : World) (g : Heap) (s : Shared) (p : Program) (loose : List Str) (mean : EoV) (mg mb : SoV) (L' : Addr) (Q : FsP) (E : VsP) (m : SoV) (rest : List Stmt) (D Dl D5 : Addr) (dd : Hd) (tb : Tb) (n t tu wd hi ba n5 nr : Nat) (rv : List Value) (al : List Addr) (rs : List (Addr × List Value × Nat)) (u1 u2 u3 u4 u5 u6 : Tok) (x6 x7 x8 x9 : Option Value) (U : Led) (c2 c3 c4 c5 c6 c7 c8 c9 : Obj) : Prop := (4 ≤ t) → (t ≤ 6) → (wd ≤ 6) → (hi ≤ 6) → (hi ≤ t) → (ba ≤ 8) → (tu ≤ 11) → (TxsAre dd.vs ((bitsN t n).reverse.map bitW)) → (TbOk tb) → (rs.map (·.1) = al) → (al.length = hi) → (RunsOk rs fun _ => []) → (∀ st < t, StepOk t (numN t n st) wd hi ba st tu) → (c2.data = .cell (some (.int (ba : Int) u3))) → (c3.data = .cell (some (.int (wd : Int) u5))) → (c4.data = .cell (some (.int (hi : Int) u6))) → (c5.data = .cell (some (.ref D5))) → (c6.data = .cell x6) → (c7.data = .cell x7) → (c8.data = .cell x8) → (c9.data = .cell x9) → SegKS w g s p loose mean mg mb L' Q E m rest (lawRun 12 1 lawBody rest) [(Str.ofString "runs", .ref Dl), (Str.ofString "ring", .ref dd.x), (Str.ofString "turn", .int (tu : Int) u4), (Str.ofString "number", .int (n : Int) u2), (Str.ofString "total", .int (t : Int) u1), (Str.ofString "heaps", .ref D)] (hdT w dd ++ (tbT tb ++ ((L' + 2, c2) :: ((L' + 3, c3) :: ((L' + 4, c4) :: ((L' + 5, c5) :: ((L' + 6, c6) :: ((L' + 7, c7) :: ((L' + 8, c8) :: ((L' + 9, c9) :: ((D5, W.listOf rv.toArray n5) :: ((Dl, W.listOf (al.map Value.ref).toArray nr) :: (runsT rs ++ ((U))))))))))))))) (fun K => ∀ V T, JS w L' dd.x D Dl n t tu nr tb al u1 u4 c2 c3 c4 U t V T → K V T)
@[irreducible] def ζ := upick (by walk_at "m ne") ((ucat un32 un16) P)
@[irreducible] def w := ζ.1.1.1.1.1.1
@[irreducible] def g := ζ.1.1.1.1.1.2
@[irreducible] def s := ζ.1.1.1.1.2.1
@[irreducible] def L' := ζ.1.1.2.1.1.1
@[irreducible] def Q := ζ.1.1.2.1.1.2
@[irreducible] def E := ζ.1.1.2.1.2.1
@[irreducible] def m := ζ.1.1.2.1.2.2
@[irreducible] def rest := ζ.1.1.2.2.1.1
@[irreducible] def Dl := ζ.1.1.2.2.2.1
@[irreducible] def D5 := ζ.1.1.2.2.2.2
@[irreducible] def dd := ζ.1.2.1.1.1.1
@[irreducible] def tb := ζ.1.2.1.1.1.2
@[irreducible] def n := ζ.1.2.1.1.2.1
@[irreducible] def t := ζ.1.2.1.1.2.2
@[irreducible] def tu := ζ.1.2.1.2.1.1
@[irreducible] def n5 := ζ.1.2.2.1.1.1
@[irreducible] def nr := ζ.1.2.2.1.1.2
@[irreducible] def rv := ζ.1.2.2.1.2.1
@[irreducible] def al := ζ.1.2.2.1.2.2
@[irreducible] def rs := ζ.1.2.2.2.1.1
@[irreducible] def u2 := ζ.1.2.2.2.2.1
@[irreducible] def x6 := ζ.2.1.1.2.2
@[irreducible] def x7 := ζ.2.1.2.1.1
@[irreducible] def x8 := ζ.2.1.2.1.2
@[irreducible] def x9 := ζ.2.1.2.2.1
@[irreducible] def U := ζ.2.1.2.2.2
@[irreducible] def c2 := ζ.2.2.1.1.1
@[irreducible] def c3 := ζ.2.2.1.1.2
@[irreducible] def c4 := ζ.2.2.1.2.1
@[irreducible] def c5 := ζ.2.2.1.2.2
@[irreducible] def c6 := ζ.2.2.2.1.1
@[irreducible] def c7 := ζ.2.2.2.1.2
@[irreducible] def c8 := ζ.2.2.2.2.1
@[irreducible] def c9 := ζ.2.2.2.2.2
theorem core : P w g s ζ.1.1.1.1.2.2 ζ.1.1.1.2.1.1 ζ.1.1.1.2.1.2 ζ.1.1.1.2.2.1 ζ.1.1.1.2.2.2 L' Q E m rest ζ.1.1.2.2.1.2 Dl D5 dd tb n t tu ζ.1.2.1.2.1.2 ζ.1.2.1.2.2.1 ζ.1.2.1.2.2.2 n5 nr rv al rs ζ.1.2.2.2.1.2 u2 ζ.1.2.2.2.2.2 ζ.2.1.1.1.1 ζ.2.1.1.1.2 ζ.2.1.1.2.1 x6 x7 x8 x9 U c2 c3 c4 c5 c6 c7 c8 c9 := by
  intro ht4 ht6 hw hh hht hba htu hring htb hal hall hro hS d2 d3 d4 d5 d6 d7 d8 d9 X Tp F N ND K kk k
  revert X; k_fill; intro X
  show wpAny _ _ (execs (_ :: rest) _) _ _ _
  dsimp only [lawEnv, List.map] at *
  generalize hrx : dd.x = rx at *
  walk_at "m go"
  walk_at "m for"
  walk_at "m go"
  refine' for_rangeT (L := L') (n := t) (J := JS w L' rx ζ.1.1.2.2.1.2 Dl n t tu nr tb al ζ.1.2.2.2.1.2 ζ.2.1.1.1.1 c2 c3 c4 U) (V₀ := _) (by rfl) ‹_› ?hsm ?hn (by rfl) (by rfl) (by rfl) ‹_› ?lc ‹_› (by k_dflt assumption) ⟨dd, D5, n5, rv, rs, u2, c5, c6, c7, c8, c9, x6, x7, x8, x9, hrx, hring, d5, d6, d7, d8, d9, .inl rfl, hal, hro, rfl, rfl⟩ ?tk ?_ ?_
  case hsm => exact rg_small (by lia) (by lia) (by lia) (by lia)
  case hn => exact rg_size (by split <;> lia)
  case lc => walk_at "m loc"
  case tk => exact TakeAll.whole
  · clear d5 d6 d7 d8 d9 hring hal hro hrx
    intro st t_ m V T h₁ tk₁ I oI E' hst j F₁ N₁ nd₁
    show wpAny _ _ _ _ _ { s with heap := h₁, toks := tk₁ }
    obtain ⟨dd, D5, n5, rv, rs, u2, c5, c6, c7, c8, c9, x6, x7, x8, x9, hdx, hring, d5, d6, d7, d8, d9, hrv, hal, hro, rfl, rfl⟩ := j
    subst hdx
    have S := hS st hst
    rw [show (0 : Int) + (st : Int) * 1 = (st : Int) by lia] at F₁
    obtain ⟨N_1, nd_1⟩ := take2 N₁ nd₁ (sl_tk1 (I, oI) (hdT w dd) (tbT tb) (L' + 2, c2) (L' + 3, c3) (L' + 4, c4) (L' + 5, c5) (L' + 6, c6) (L' + 7, c7) (L' + 8, c8) (L' + 9, c9) (D5, W.listOf rv.toArray n5) (Dl, W.listOf (al.map Value.ref).toArray nr) (runsT rs) (U))
    have hcl : ∀ i, ((fun i => (List.range st).map fun q => (duesN t (numN t n q)).getD i 0) i).length ≤ st := fun i => by simp
    refine seg_step (bl := bitsN t (numN t n st)) (ds := duesN t (numN t n st)) (ls := lackN ζ.1.2.1.2.1.2 (duesN t (numN t n st))) (ps := placesN t (numN t n st)) (bare := bareN t (numN t n st)) (col := (fun i => (List.range st).map fun q => (duesN t (numN t n q)).getD i 0)) (R := restT (itsOf (duesN t (numN t n st)) (bareN t (numN t n st)) (st + tu))) (tk := tokT (itsOf (duesN t (numN t n st)) (bareN t (numN t n st)) (st + tu))) (U := (I, oI) :: U) ht4 ht6 hw hh hht hba (by lia) htu S.n62 (by simp [bitsN]) hring htb S.ds S.db hrv hal hall hcl hro S.b1 S.b2 S.q S.R0 S.s128 S.R S.tks S.tki S.tkl S.tk128 S.lack S.ll S.l6 S.pl S.pl6 S.p5 S.n1 S.n2 S.f1 S.eq d2 d3 d4 d5 d6 d7 d8 d9 X Tp F₁ N_1 nd_1 _ (fun _ _ c => c) ?_
    intro dd' D5' n5' rv' rs' u2' c5' c6' c7' c8' c9' x6' x7' x8' x9' hx' hring' d5' d6' d7' d8' d9' hrv' hal' hro' h' tk' m' F' N' nd'
    show wpAny _ _ _ _ _ { s with heap := h', toks := tk' }
    rw [S.bits] at hring'
    rw [S.rows] at hrv'
    have e : (fun i => if ζ.1.2.1.2.2.1 - ζ.1.2.1.2.2.1 ≤ i then (fun i => (List.range st).map fun q => (duesN t (numN t n q)).getD i 0) i ++ [(duesN t (numN t n st)).getD i 0] else (fun i => (List.range st).map fun q => (duesN t (numN t n q)).getD i 0) i) = fun i => (List.range (st + 1)).map fun q => (duesN t (numN t n q)).getD i 0 := by
      funext i
      rw [if_pos (by lia), List.range_succ, List.map_append]; rfl
    rw [e] at hro'
    obtain ⟨N_1, nd_1⟩ := take2 N' nd' (slb_tk1 (hdT w dd') (tbT tb) (L' + 2, c2) (L' + 3, c3) (L' + 4, c4) (L' + 5, c5') (L' + 6, c6') (L' + 7, c7') (L' + 8, c8') (L' + 9, c9') (D5', W.listOf rv'.toArray n5') (Dl, W.listOf (al.map Value.ref).toArray nr) (runsT rs') (I, oI) (U))
    refine wpAny_execs_nil ?_
    refine turn_next (rest := []) (J := JS w L' dd.x ζ.1.1.2.2.1.2 Dl n t tu nr tb al ζ.1.2.2.2.1.2 ζ.2.1.1.1.1 c2 c3 c4 U (st + 1)) F' N_1 nd_1 ([(Str.ofString "runs", .ref Dl), (Str.ofString "ring", .ref dd.x), (Str.ofString "turn", .int (tu : Int) ζ.2.1.1.1.1), (Str.ofString "number", .int (numN t n (st + 1) : Int) u2'), (Str.ofString "total", .int (t : Int) ζ.1.2.2.2.1.2), (Str.ofString "heaps", .ref ζ.1.1.2.2.1.2)]) (hdT w dd' ++ (tbT tb ++ ((L' + 2, c2) :: ((L' + 3, c3) :: ((L' + 4, c4) :: ((L' + 5, c5') :: ((L' + 6, c6') :: ((L' + 7, c7') :: ((L' + 8, c8') :: ((L' + 9, c9') :: ((D5', W.listOf rv'.toArray n5') :: ((Dl, W.listOf (al.map Value.ref).toArray nr) :: (runsT rs' ++ ((U))))))))))))))) ⟨dd', D5', n5', rv', rs', u2', c5', c6', c7', c8', c9', x6', x7', x8', x9', hx', hring', d5', d6', d7', d8', d9', .inr hrv', hal', hro', rfl, rfl⟩ ⟨rfl, rfl, rfl, rfl, rfl, rfl, trivial⟩ TakeAll.whole
  · intro m V T h₁ tk₁ E' j F₁ N₁ nd₁
    obtain ⟨dd, D5, n5, rv, rs, u2, c5, c6, c7, c8, c9, x6, x7, x8, x9, hdx, hring, d5, d6, d7, d8, d9, hrv, hal, hro, rfl, rfl⟩ := j
    walk_at "m go"
    try dsimp only
    refine' seg_end (kk _ _ (k _ _ ⟨dd, D5, n5, rv, rs, u2, c5, c6, c7, c8, c9, x6, x7, x8, x9, hdx, hring, d5, d6, d7, d8, d9, hrv, hal, hro, rfl, rfl⟩)) (rs := []) ‹_› ‹_› (by k_dflt assumption) ?l2 ?t2
    case l2 => walk_at "m loc"
    case t2 => exact TakeAll.whole
end E_seg_l
end
theorem seg_l : ∀ {w g s p loose mean mg mb L' Q E m rest D Dl D5 dd tb n t tu wd hi ba n5 nr rv al rs u1 u2 u3 u4 u5 u6 x6 x7 x8 x9 U c2 c3 c4 c5 c6 c7 c8 c9}, E_seg_l.P w g s p loose mean mg mb L' Q E m rest D Dl D5 dd tb n t tu wd hi ba n5 nr rv al rs u1 u2 u3 u4 u5 u6 x6 x7 x8 x9 U c2 c3 c4 c5 c6 c7 c8 c9 := fun {w g s p loose mean mg mb L' Q E m rest D Dl D5 dd tb n t tu wd hi ba n5 nr rv al rs u1 u2 u3 u4 u5 u6 x6 x7 x8 x9 U c2 c3 c4 c5 c6 c7 c8 c9} => by with_unfolding_all exact pk (c := E_seg_l.ζ) rfl E_seg_l.core ((((((w, g), (s, p)), ((loose, mean), (mg, mb))), (((L', Q), (E, m)), ((rest, D), (Dl, D5)))), ((((dd, tb), (n, t)), ((tu, wd), (hi, ba))), (((n5, nr), (rv, al)), ((rs, u1), (u2, u3))))), ((((u4, u5), (u6, x6)), ((x7, x8), (x9, U))), (((c2, c3), (c4, c5)), ((c6, c7), (c8, c9)))))
end
section
noncomputable section
namespace E_seg_f0
def P (w : World) (g : Heap) (s : Shared) (p : Program) (loose : List Str) (mean : EoV) (mg mb : SoV) (L' : Addr) (Q : FsP) (E : VsP) (m : SoV) (rest : List Stmt) (U : Led) (z : Int) (i : Nat) (ti : Tok) (Dl a : Addr) (rl : List Value) (hi nr : Nat) (u6 : Tok) (c4 c10 : Obj) (x10 : Option Value) : Prop := (z = (i : Int)) → (i ≤ 6) → (hi ≤ 6) → (i < hi) → (rl[hi - 1 - i]? = some (.ref a)) → (c4.data = .cell (some (.int (hi : Int) u6))) → (c10.data = .cell x10) → SegFS w g s p loose mean mg mb L' Q E m rest (lawRun 0 1 (blockOf 13 lawBody) rest) [(Str.ofString "i", .int z ti), (Str.ofString "runs", .ref Dl)] ((L' + 4, c4) :: (Dl, W.listOf rl.toArray nr) :: (L' + 10, c10) :: U) [] (fun K => ∀ (c10' : Obj), c10'.data = .cell (some (.ref a)) → K [(Str.ofString "i", .int z ti), (Str.ofString "runs", .ref Dl)] ((L' + 4, c4) :: (Dl, W.listOf rl.toArray nr) :: (L' + 10, c10') :: U))
@[irreducible] def ζ := upick (by walk_at "m ne") ((ucat un16 (ucat un8 un2)) P)
@[irreducible] def w := ζ.1.1.1.1.1
@[irreducible] def g := ζ.1.1.1.1.2
@[irreducible] def s := ζ.1.1.1.2.1
@[irreducible] def L' := ζ.1.2.1.1.1
@[irreducible] def Q := ζ.1.2.1.1.2
@[irreducible] def E := ζ.1.2.1.2.1
@[irreducible] def m := ζ.1.2.1.2.2
@[irreducible] def rest := ζ.1.2.2.1.1
theorem core : P w g s ζ.1.1.1.2.2 ζ.1.1.2.1.1 ζ.1.1.2.1.2 ζ.1.1.2.2.1 ζ.1.1.2.2.2 L' Q E m rest ζ.1.2.2.1.2 ζ.1.2.2.2.1 ζ.1.2.2.2.2 ζ.2.1.1.1.1 ζ.2.1.1.1.2 ζ.2.1.1.2.1 ζ.2.1.1.2.2 ζ.2.1.2.1.1 ζ.2.1.2.1.2 ζ.2.1.2.2.1 ζ.2.1.2.2.2 ζ.2.2.1 ζ.2.2.2 := by
  intro hz hi6 hh hih hrl d4 d10 X Tp F N ND K kk k
  revert X; k_fill; intro X
  show wpAny _ _ (execs (_ :: rest) _) _ _ _
  dsimp only [lawEnv, List.map] at *
  walk_at "m go"
  try dsimp only
  refine' segF_end (kk _ _ (k _ ‹_›)) (rs := ?rs3) ‹_› ‹_› (by k_dflt assumption) ?l ?fr ?t
  case l => walk_at "m loc"
  case fr => walk_at "m fr"
  case t => walk_at "m take"
end E_seg_f0
end
theorem seg_f0 : ∀ {w g s p loose mean mg mb L' Q E m rest U z i ti Dl a rl hi nr u6 c4 c10 x10}, E_seg_f0.P w g s p loose mean mg mb L' Q E m rest U z i ti Dl a rl hi nr u6 c4 c10 x10 := fun {w g s p loose mean mg mb L' Q E m rest U z i ti Dl a rl hi nr u6 c4 c10 x10} => by with_unfolding_all exact pk (c := E_seg_f0.ζ) rfl E_seg_f0.core (((((w, g), (s, p)), ((loose, mean), (mg, mb))), (((L', Q), (E, m)), ((rest, U), (z, i)))), ((((ti, Dl), (a, rl)), ((hi, nr), (u6, c4))), (c10, x10)))
end
section
noncomputable section
namespace E_seg_f1
def P (w : World) (g : Heap) (s : Shared) (p : Program) (loose : List Str) (mean : EoV) (mg mb : SoV) (L' : Addr) (Q : FsP) (E : VsP) (m : SoV) (rest : List Stmt) (U : Led) (a : Addr) (na : Nat) (vs : List Value) (mc : List Nat) (c10 : Obj) : Prop := (mc.length ≤ 6) → (∀ d ∈ mc, d ≤ 6) → (IntsAre vs (intsN mc)) → (c10.data = .cell (some (.ref a))) → SegFS w g s p loose mean mg mb L' Q E m rest (lawRun 1 1 (blockOf 13 lawBody) rest) [] ((L' + 10, c10) :: (a, W.listOf vs.toArray na) :: U) [Str.ofString "lead"] (fun K => ∀ (xl : Addr) (dl : Ws), WsOk (runsL (intsN mc)) dl → K [(Str.ofString "lead", .ref xl)] (wsT w xl dl ++ ((L' + 10, c10) :: (a, W.listOf vs.toArray na) :: U)))
@[irreducible] def ζ := upick (by walk_at "m ne") ((ucat un16 (ucat un2 un1)) P)
@[irreducible] def w := ζ.1.1.1.1.1
@[irreducible] def g := ζ.1.1.1.1.2
@[irreducible] def s := ζ.1.1.1.2.1
@[irreducible] def L' := ζ.1.2.1.1.1
@[irreducible] def Q := ζ.1.2.1.1.2
@[irreducible] def E := ζ.1.2.1.2.1
@[irreducible] def m := ζ.1.2.1.2.2
@[irreducible] def rest := ζ.1.2.2.1.1
@[irreducible] def mc := ζ.2.1.2
theorem core : P w g s ζ.1.1.1.2.2 ζ.1.1.2.1.1 ζ.1.1.2.1.2 ζ.1.1.2.2.1 ζ.1.1.2.2.2 L' Q E m rest ζ.1.2.2.1.2 ζ.1.2.2.2.1 ζ.1.2.2.2.2 ζ.2.1.1 mc ζ.2.2 := by
  intro hml hmb hvs d10 X Tp F N ND K kk k
  revert X; k_fill; intro X
  show wpAny _ _ (execs (_ :: rest) _) _ _ _
  dsimp only [lawEnv, List.map] at *
  have h1 : (intsN mc).length ≤ 20 := by simp [intsN]; lia
  have h2 : ∀ n ∈ intsN mc, n ≤ (1000 : Nat) := ints_le hmb (by decide)
  have h3 : ∀ n ∈ intsN mc, 0 ≤ n := ints_ge mc
  have h4 : (runsL (intsN mc)).length ≤ 200 := runsN_len hml hmb
  walk_at "m go"
  try dsimp only
  rename Ws => dw
  rename (WsOk _ _) => hdw
  refine' segF_end (kk _ _ (k _ dw hdw)) (rs := ?rs3) ‹_› ‹_› (by k_dflt assumption) ?l ?fr ?t
  case l => walk_at "m loc"
  case fr => walk_at "m fr"
  case t => walk_at "m take"
end E_seg_f1
end
theorem seg_f1 : ∀ {w g s p loose mean mg mb L' Q E m rest U a na vs mc c10}, E_seg_f1.P w g s p loose mean mg mb L' Q E m rest U a na vs mc c10 := fun {w g s p loose mean mg mb L' Q E m rest U a na vs mc c10} => by with_unfolding_all exact pk (c := E_seg_f1.ζ) rfl E_seg_f1.core (((((w, g), (s, p)), ((loose, mean), (mg, mb))), (((L', Q), (E, m)), ((rest, U), (a, na)))), ((vs, mc), c10))
end
section
noncomputable section
namespace E_seg_f2
def P (w : World) (g : Heap) (s : Shared) (p : Program) (loose : List Str) (mean : EoV) (mg mb : SoV) (L' : Addr) (Q : FsP) (E : VsP) (m : SoV) (rest : List Stmt) (U : Led) (z : Int) (i : Nat) (ti : Tok) (Dl b : Addr) (rl ws : List Value) (wd nr nb : Nat) (lc : List Nat) (u5 : Tok) (c3 : Obj) : Prop := (z = (i : Int)) → (i ≤ 6) → (wd ≤ 6) → (rl[i]? = some (.ref b)) → (lc.length ≤ 6) → (∀ d ∈ lc, d ≤ wd) → (IntsAre ws (intsN lc)) → (c3.data = .cell (some (.int (wd : Int) u5))) → SegFS w g s p loose mean mg mb L' Q E m rest (lawRun 2 1 (blockOf 13 lawBody) rest) [(Str.ofString "i", .int z ti), (Str.ofString "runs", .ref Dl)] ((L' + 3, c3) :: (Dl, W.listOf rl.toArray nr) :: (b, W.listOf ws.toArray nb) :: U) [Str.ofString "lacks"] (fun K => ∀ (tl : Tok), K [(Str.ofString "lacks", .str (Tx (runsL (intsN (lc.map (wd - ·))))) tl), (Str.ofString "i", .int z ti), (Str.ofString "runs", .ref Dl)] ((L' + 3, c3) :: (Dl, W.listOf rl.toArray nr) :: (b, W.listOf ws.toArray nb) :: U))
@[irreducible] def ζ := upick (by walk_at "m ne") ((ucat un16 (ucat un8 (ucat un2 un1))) P)
@[irreducible] def w := ζ.1.1.1.1.1
@[irreducible] def g := ζ.1.1.1.1.2
@[irreducible] def s := ζ.1.1.1.2.1
@[irreducible] def L' := ζ.1.2.1.1.1
@[irreducible] def Q := ζ.1.2.1.1.2
@[irreducible] def E := ζ.1.2.1.2.1
@[irreducible] def m := ζ.1.2.1.2.2
@[irreducible] def rest := ζ.1.2.2.1.1
@[irreducible] def i := ζ.1.2.2.2.2
@[irreducible] def wd := ζ.2.1.2.1.2
@[irreducible] def lc := ζ.2.2.1.1
theorem core : P w g s ζ.1.1.1.2.2 ζ.1.1.2.1.1 ζ.1.1.2.1.2 ζ.1.1.2.2.1 ζ.1.1.2.2.2 L' Q E m rest ζ.1.2.2.1.2 ζ.1.2.2.2.1 i ζ.2.1.1.1.1 ζ.2.1.1.1.2 ζ.2.1.1.2.1 ζ.2.1.1.2.2 ζ.2.1.2.1.1 wd ζ.2.1.2.2.1 ζ.2.1.2.2.2 lc ζ.2.2.1.2 ζ.2.2.2 := by
  intro hz hi6 hw hrl hll hlb hws d3 X Tp F N ND K kk k
  revert X; k_fill; intro X
  show wpAny _ _ (execs (_ :: rest) _) _ _ _
  dsimp only [lawEnv, List.map] at *
  walk_at "m go"
  unfold Halt
  have hwl := hws.length
  have hil : (intsN lc).length = lc.length := by simp [intsN]
  refine comp_list (vs := ζ.2.1.2.1.1) (c := ζ.2.1.2.2.2) (J := fun i ys T => IntsAre ys ((intsN (lc.map (wd - ·))).take i) ∧ T = _) (by rfl) ‹_› ‹_› (by k_dflt assumption) (by lia) ⟨.nil, rfl⟩ (fun i ys T j => by rw [j.2]; k_mem) ?_ ?_
  · intro j v ys T I oI C oC D m₂ h₂ tk₂ E₂ hin hv jj hC hx F₂ N₂ nd₂
    obtain ⟨hy, rfl⟩ := jj
    obtain ⟨d, t', hk, rfl, hd5⟩ := ints_nat hws hlb j v hv
    walk_at "m go"
    try dsimp only
    refine TurnC.mk (rest := ?rs11) ‹_› ‹_› (by k_dflt assumption) _ ?tk ⟨lack_row hy hk hd5, rfl⟩
    case tk => walk_at "m take"
  intro gg ys T j nd D h₃ tk₃ F₃ N₃ o1
  obtain ⟨hy, rfl⟩ := j
  have ND₃ := apart1_of o1 nd
  clear o1 nd
  rw [List.take_of_length_le (by simp [intsN]; lia)] at hy
  have hmb : ∀ d ∈ lc.map (wd - ·), d ≤ 6 := fun d hd => by
    obtain ⟨e, _, rfl⟩ := List.mem_map.mp hd
    lia
  have h1 : (intsN (lc.map (wd - ·))).length ≤ 20 := by simp [intsN]; lia
  have h2 : ∀ n ∈ intsN (lc.map (wd - ·)), n ≤ (1000 : Nat) := ints_le hmb (by decide)
  have h3 : ∀ n ∈ intsN (lc.map (wd - ·)), 0 ≤ n := ints_ge _
  dsimp only at *
  walk_at "m go"
  try dsimp only
  refine' segF_end (kk _ _ (k _)) (rs := ?rs3) ‹_› ‹_› (by k_dflt assumption) ?l ?fr ?t
  case l => walk_at "m loc"
  case fr => walk_at "m fr"
  case t => walk_at "m take"
end E_seg_f2
end
theorem seg_f2 : ∀ {w g s p loose mean mg mb L' Q E m rest U z i ti Dl b rl ws wd nr nb lc u5 c3}, E_seg_f2.P w g s p loose mean mg mb L' Q E m rest U z i ti Dl b rl ws wd nr nb lc u5 c3 := fun {w g s p loose mean mg mb L' Q E m rest U z i ti Dl b rl ws wd nr nb lc u5 c3} => by with_unfolding_all exact pk (c := E_seg_f2.ζ) rfl E_seg_f2.core (((((w, g), (s, p)), ((loose, mean), (mg, mb))), (((L', Q), (E, m)), ((rest, U), (z, i)))), ((((ti, Dl), (b, rl)), ((ws, wd), (nr, nb))), ((lc, u5), c3)))
end
section
noncomputable section
namespace E_seg_f3
def P (w : World) (g : Heap) (s : Shared) (p : Program) (loose : List Str) (mean : EoV) (mg mb : SoV) (L' : Addr) (Q : FsP) (E : VsP) (m : SoV) (rest : List Stmt) (U : Led) (xl : Addr) (dl : Ws) (la ll : List Nat) (tl : Tok) : Prop := (WsOk ll dl) → (∀ c ∈ la, c < 128) → (la.length ≤ 200) → (ll.length ≤ 200) → (equalW (wsOf la) (wsOf ll) = true) → SegFS w g s p loose mean mg mb L' Q E m rest (lawRun 3 1 (blockOf 13 lawBody) rest) [(Str.ofString "lacks", .str (Tx la) tl), (Str.ofString "lead", .ref xl)] (wsT w xl dl ++ U) [] (fun K => K [(Str.ofString "lacks", .str (Tx la) tl), (Str.ofString "lead", .ref xl)] (wsT w xl dl ++ U))
@[irreducible] def ζ := upick (by walk_at "m ne") ((ucat un16 (ucat un2 un1)) P)
@[irreducible] def w := ζ.1.1.1.1.1
@[irreducible] def g := ζ.1.1.1.1.2
@[irreducible] def s := ζ.1.1.1.2.1
@[irreducible] def L' := ζ.1.2.1.1.1
@[irreducible] def Q := ζ.1.2.1.1.2
@[irreducible] def E := ζ.1.2.1.2.1
@[irreducible] def m := ζ.1.2.1.2.2
@[irreducible] def rest := ζ.1.2.2.1.1
theorem core : P w g s ζ.1.1.1.2.2 ζ.1.1.2.1.1 ζ.1.1.2.1.2 ζ.1.1.2.2.1 ζ.1.1.2.2.2 L' Q E m rest ζ.1.2.2.1.2 ζ.1.2.2.2.1 ζ.1.2.2.2.2 ζ.2.1.1 ζ.2.1.2 ζ.2.2 := by
  intro hdl hla hl1 hl2 heq X Tp F N ND K kk k
  revert X; k_fill; intro X
  show wpAny _ _ (execs (_ :: rest) _) _ _ _
  dsimp only [lawEnv, List.map] at *
  walk_at "m go"
  · exfalso
    rename (_ = true) => he
    rw [heq] at he
    simp at he
  · dsimp only
    refine' segF_end (kk _ _ (k)) (rs := ?rs3) ‹_› ‹_› (by k_dflt assumption) ?l ?fr ?t
    case l => walk_at "m loc"
    case fr => walk_at "m fr"
    case t => walk_at "m take"
end E_seg_f3
end
theorem seg_f3 : ∀ {w g s p loose mean mg mb L' Q E m rest U xl dl la ll tl}, E_seg_f3.P w g s p loose mean mg mb L' Q E m rest U xl dl la ll tl := fun {w g s p loose mean mg mb L' Q E m rest U xl dl la ll tl} => by with_unfolding_all exact pk (c := E_seg_f3.ζ) rfl E_seg_f3.core (((((w, g), (s, p)), ((loose, mean), (mg, mb))), (((L', Q), (E, m)), ((rest, U), (xl, dl)))), ((la, ll), tl))
end
section
noncomputable section
namespace E_seg_f4a
def P (w : World) (g : Heap) (s : Shared) (p : Program) (loose : List Str) (mean : EoV) (mg mb : SoV) (L' : Addr) (Q : FsP) (E : VsP) (m : SoV) (rest : List Stmt) (U : Led) (z : Int) (i : Nat) (ti : Tok) (hi tu : Nat) (u4 u6 : Tok) (c4 : Obj) : Prop := (z = (i : Int)) → (i ≤ 6) → (hi ≤ 6) → (i < (hi + 1) / 2) → (tu ≤ 11) → (c4.data = .cell (some (.int (hi : Int) u6))) → (i = tu % ((hi + 1) / 2)) → SegFS w g s p loose mean mg mb L' Q E m rest (lawRun 4 1 (blockOf 13 lawBody) rest) [(Str.ofString "i", .int z ti), (Str.ofString "turn", .int (tu : Int) u4)] ((L' + 4, c4) :: U) [] (fun K => K [(Str.ofString "i", .int z ti), (Str.ofString "turn", .int (tu : Int) u4)] ((L' + 4, c4) :: U))
@[irreducible] def ζ := upick (by walk_at "m ne") ((ucat un16 (ucat un4 un2)) P)
@[irreducible] def w := ζ.1.1.1.1.1
@[irreducible] def g := ζ.1.1.1.1.2
@[irreducible] def s := ζ.1.1.1.2.1
@[irreducible] def L' := ζ.1.2.1.1.1
@[irreducible] def Q := ζ.1.2.1.1.2
@[irreducible] def E := ζ.1.2.1.2.1
@[irreducible] def m := ζ.1.2.1.2.2
@[irreducible] def rest := ζ.1.2.2.1.1
theorem core : P w g s ζ.1.1.1.2.2 ζ.1.1.2.1.1 ζ.1.1.2.1.2 ζ.1.1.2.2.1 ζ.1.1.2.2.2 L' Q E m rest ζ.1.2.2.1.2 ζ.1.2.2.2.1 ζ.1.2.2.2.2 ζ.2.1.1.1 ζ.2.1.1.2 ζ.2.1.2.1 ζ.2.1.2.2 ζ.2.2.1 ζ.2.2.2 := by
  intro hz hi6 hh hih htu d4 hit X Tp F N ND K kk k
  revert X; k_fill; intro X
  show wpAny _ _ (execs (_ :: rest) _) _ _ _
  dsimp only [lawEnv, List.map] at *
  have hm := half_eq ζ.2.1.1.2 ζ.2.1.2.1 (by lia)
  have hm2 := half_pos ζ.2.1.1.2 (by lia)
  walk_at "m go"
  · exfalso
    rename (_ ≠ _) => he
    rw [hm] at he
    lia
  · dsimp only
    refine' segF_end (kk _ _ (k)) (rs := ?rs3) ‹_› ‹_› (by k_dflt assumption) ?l ?fr ?t
    case l => walk_at "m loc"
    case fr => walk_at "m fr"
    case t => walk_at "m take"
end E_seg_f4a
end
theorem seg_f4a : ∀ {w g s p loose mean mg mb L' Q E m rest U z i ti hi tu u4 u6 c4}, E_seg_f4a.P w g s p loose mean mg mb L' Q E m rest U z i ti hi tu u4 u6 c4 := fun {w g s p loose mean mg mb L' Q E m rest U z i ti hi tu u4 u6 c4} => by with_unfolding_all exact pk (c := E_seg_f4a.ζ) rfl E_seg_f4a.core (((((w, g), (s, p)), ((loose, mean), (mg, mb))), (((L', Q), (E, m)), ((rest, U), (z, i)))), (((ti, hi), (tu, u4)), (u6, c4)))
end
section
noncomputable section
namespace E_seg_f4b
def P (w : World) (g : Heap) (s : Shared) (p : Program) (loose : List Str) (mean : EoV) (mg mb : SoV) (L' : Addr) (Q : FsP) (E : VsP) (m : SoV) (rest : List Stmt) (U : Led) (z : Int) (i : Nat) (ti : Tok) (hi tu : Nat) (u4 u6 : Tok) (c4 : Obj) : Prop := (z = (i : Int)) → (i ≤ 6) → (hi ≤ 6) → (i < (hi + 1) / 2) → (tu ≤ 11) → (c4.data = .cell (some (.int (hi : Int) u6))) → (i ≠ tu % ((hi + 1) / 2)) → ((hd.heap_39 w.params).In g) → (Top p loose mean mg mb g) → (Fr g L' s.heap (over [(Str.ofString "i", .int z ti), (Str.ofString "turn", .int (tu : Int) u4)] m)) → (News g L' s.heap ((L' + 4, c4) :: U)) → (Apart (((L' + 4, c4) :: U).map (·.1))) → (∀ h' tk m₁ V T, (fun V T => V = [(Str.ofString "i", .int z ti), (Str.ofString "turn", .int (tu : Int) u4)] ∧ T = (L' + 4, c4) :: U) V T → (∀ y, y ∉ ([] : List Str) → m₁ y = over [(Str.ofString "i", .int z ti), (Str.ofString "turn", .int (tu : Int) u4)] m y) → Fr g L' h' (over V m₁) → News g L' h' T → Apart (T.map (·.1)) → Q .cont { s with heap := h', toks := tk }) → (wpAny (model Challenge.rw_uc0019_01.row.prog w) ((Lv 850).deeper (lawEnv L')) (execs (lawRun 4 1 (blockOf 13 lawBody) rest) (lawEnv L')) Q E s)
@[irreducible] def ζ := upick (by walk_at "m ne") ((ucat un16 (ucat un4 un2)) P)
@[irreducible] def w := ζ.1.1.1.1.1
@[irreducible] def g := ζ.1.1.1.1.2
@[irreducible] def s := ζ.1.1.1.2.1
@[irreducible] def L' := ζ.1.2.1.1.1
@[irreducible] def Q := ζ.1.2.1.1.2
@[irreducible] def E := ζ.1.2.1.2.1
@[irreducible] def m := ζ.1.2.1.2.2
@[irreducible] def rest := ζ.1.2.2.1.1
theorem core : P w g s ζ.1.1.1.2.2 ζ.1.1.2.1.1 ζ.1.1.2.1.2 ζ.1.1.2.2.1 ζ.1.1.2.2.2 L' Q E m rest ζ.1.2.2.1.2 ζ.1.2.2.2.1 ζ.1.2.2.2.2 ζ.2.1.1.1 ζ.2.1.1.2 ζ.2.1.2.1 ζ.2.1.2.2 ζ.2.2.1 ζ.2.2.2 := by
  intro hz hi6 hh hih htu d4 hit X Tp F N ND k
  revert X; k_fill; intro X
  show wpAny _ _ (execs (_ :: rest) _) _ _ _
  dsimp only [lawEnv, List.map] at *
  have hm := half_eq ζ.2.1.1.2 ζ.2.1.2.1 (by lia)
  have hm2 := half_pos ζ.2.1.1.2 (by lia)
  walk_at "m go"
  · dsimp only
    exact k _ _ _ _ _ ⟨rfl, rfl⟩ (fun y _ => rfl) (fr_loc ‹_› ⟨rfl, rfl, trivial⟩) ‹_› (by k_dflt assumption)
  · exfalso
    rename (_ = Int.fmod _ _) => he
    rw [hm] at he
    lia
end E_seg_f4b
end
theorem seg_f4b : ∀ {w g s p loose mean mg mb L' Q E m rest U z i ti hi tu u4 u6 c4}, E_seg_f4b.P w g s p loose mean mg mb L' Q E m rest U z i ti hi tu u4 u6 c4 := fun {w g s p loose mean mg mb L' Q E m rest U z i ti hi tu u4 u6 c4} => by with_unfolding_all exact pk (c := E_seg_f4b.ζ) rfl E_seg_f4b.core (((((w, g), (s, p)), ((loose, mean), (mg, mb))), (((L', Q), (E, m)), ((rest, U), (z, i)))), (((ti, hi), (tu, u4)), (u6, c4)))
end
section
noncomputable section
namespace E_seg_f5
def P (w : World) (g : Heap) (s : Shared) (p : Program) (loose : List Str) (mean : EoV) (mg mb : SoV) (L' : Addr) (Q : FsP) (E : VsP) (m : SoV) (rest : List Stmt) (U : Led) (D : Addr) (ys : List Value) (ny t : Nat) (u1 : Tok) (h0 h1 h2 h3 : Int) : Prop := (IntsAre ys [h0, h1, h2, h3]) → (4 ≤ t) → (t ≤ 6) → SegFS w g s p loose mean mg mb L' Q E m rest (lawRun 5 1 (blockOf 13 lawBody) rest) [(Str.ofString "heaps", .ref D), (Str.ofString "total", .int (t : Int) u1)] ((D, W.listOf ys.toArray ny) :: U) [Str.ofString "place"] (fun K => ∀ (p : Nat) (up : Tok), p < t - 1 → K [(Str.ofString "place", .int (p : Int) up), (Str.ofString "heaps", .ref D), (Str.ofString "total", .int (t : Int) u1)] ((D, W.listOf ys.toArray ny) :: U))
@[irreducible] def ζ := upick (by walk_at "m ne") ((ucat un16 (ucat un4 (ucat un2 un1))) P)
@[irreducible] def w := ζ.1.1.1.1.1
@[irreducible] def g := ζ.1.1.1.1.2
@[irreducible] def s := ζ.1.1.1.2.1
@[irreducible] def p := ζ.1.1.1.2.2
@[irreducible] def L' := ζ.1.2.1.1.1
@[irreducible] def Q := ζ.1.2.1.1.2
@[irreducible] def E := ζ.1.2.1.2.1
@[irreducible] def m := ζ.1.2.1.2.2
@[irreducible] def rest := ζ.1.2.2.1.1
@[irreducible] def h0 := ζ.2.1.2.2
@[irreducible] def h1 := ζ.2.2.1.1
@[irreducible] def h2 := ζ.2.2.1.2
@[irreducible] def h3 := ζ.2.2.2
theorem core : P w g s p ζ.1.1.2.1.1 ζ.1.1.2.1.2 ζ.1.1.2.2.1 ζ.1.1.2.2.2 L' Q E m rest ζ.1.2.2.1.2 ζ.1.2.2.2.1 ζ.1.2.2.2.2 ζ.2.1.1.1 ζ.2.1.1.2 ζ.2.1.2.1 h0 h1 h2 h3 := by
  intro hy ht4 ht6 X Tp F N ND K kk k
  revert X; k_fill; intro X
  show wpAny _ _ (execs (_ :: rest) _) _ _ _
  dsimp only [lawEnv, List.map] at *
  walk_at "m go"
  try dsimp only
  have hP := fmP ([h0, h1, h2, h3].getD (Int.toNat 2) 0 + [h0, h1, h2, h3].getD (Int.toNat 3) 0) (b := (ζ.2.1.1.2 : Int) - 1) (by lia)
  generalize ([h0, h1, h2, h3].getD (Int.toNat 2) 0 + [h0, h1, h2, h3].getD (Int.toNat 3) 0).fmod ((ζ.2.1.1.2 : Int) - 1) = P at *
  obtain ⟨p, rfl⟩ := Int.eq_ofNat_of_zero_le hP.1
  refine' segF_end (kk _ _ (k p _ (by lia))) (rs := ?rs3) ‹_› ‹_› (by k_dflt assumption) ?l ?fr ?t
  case l => walk_at "m loc"
  case fr => walk_at "m fr"
  case t => walk_at "m take"
end E_seg_f5
end
theorem seg_f5 : ∀ {w g s p loose mean mg mb L' Q E m rest U D ys ny t u1 h0 h1 h2 h3}, E_seg_f5.P w g s p loose mean mg mb L' Q E m rest U D ys ny t u1 h0 h1 h2 h3 := fun {w g s p loose mean mg mb L' Q E m rest U D ys ny t u1 h0 h1 h2 h3} => by with_unfolding_all exact pk (c := E_seg_f5.ζ) rfl E_seg_f5.core (((((w, g), (s, p)), ((loose, mean), (mg, mb))), (((L', Q), (E, m)), ((rest, U), (D, ys)))), (((ny, t), (u1, h0)), ((h1, h2), h3)))
end
section
noncomputable section
namespace E_seg_f6
def P (w : World) (g : Heap) (s : Shared) (p : Program) (loose : List Str) (mean : EoV) (mg mb : SoV) (L' : Addr) (Q : FsP) (E : VsP) (m : SoV) (rest : List Stmt) (U : Led) (a : Addr) (na q t : Nat) (up : Tok) (vs : List Value) (mc : List Nat) (c10 c11 : Obj) (x11 : Option Value) : Prop := (mc.length = t) → (t ≤ 6) → (q < t - 1) → (IntsAre vs (intsN mc)) → (c10.data = .cell (some (.ref a))) → (c11.data = .cell x11) → SegFS w g s p loose mean mg mb L' Q E m rest (lawRun 6 1 (blockOf 13 lawBody) rest) [(Str.ofString "place", .int (q : Int) up)] ((L' + 10, c10) :: (a, W.listOf vs.toArray na) :: (L' + 11, c11) :: U) [] (fun K => ∀ (Dm : Addr) (mv : List Value) (c11' : Obj), c11'.data = .cell (some (.ref Dm)) → IntsAre mv (intsN (movedN mc q)) → K [(Str.ofString "place", .int (q : Int) up)] ((L' + 10, c10) :: (a, W.listOf vs.toArray na) :: (L' + 11, c11') :: (Dm, W.listOf mv.toArray 0) :: U))
@[irreducible] def ζ := upick (by walk_at "m ne") ((ucat un16 un8) P)
@[irreducible] def w := ζ.1.1.1.1.1
@[irreducible] def g := ζ.1.1.1.1.2
@[irreducible] def s := ζ.1.1.1.2.1
@[irreducible] def L' := ζ.1.2.1.1.1
@[irreducible] def Q := ζ.1.2.1.1.2
@[irreducible] def E := ζ.1.2.1.2.1
@[irreducible] def m := ζ.1.2.1.2.2
@[irreducible] def rest := ζ.1.2.2.1.1
@[irreducible] def q := ζ.2.1.1.1
theorem core : P w g s ζ.1.1.1.2.2 ζ.1.1.2.1.1 ζ.1.1.2.1.2 ζ.1.1.2.2.1 ζ.1.1.2.2.2 L' Q E m rest ζ.1.2.2.1.2 ζ.1.2.2.2.1 ζ.1.2.2.2.2 q ζ.2.1.1.2 ζ.2.1.2.1 ζ.2.1.2.2 ζ.2.2.1.1 ζ.2.2.1.2 ζ.2.2.2.1 ζ.2.2.2.2 := by
  intro hml ht6 hp hvs d10 d11 X Tp F N ND K kk k
  revert X; k_fill; intro X
  show wpAny _ _ (execs (_ :: rest) _) _ _ _
  dsimp only [lawEnv, List.map] at *
  have hvl : ζ.2.1.2.2.length ≤ 6 := by have := hvs.length; rw [this]; simp [intsN]; lia
  obtain ⟨t1, hx1⟩ := intsN_ix hvs (i := q) (k := (q : Int)) rfl (by lia) (by lia)
  obtain ⟨t2, hx2⟩ := intsN_ix hvs (i := q + 1) (k := (q : Int) + 1) (by lia) (by lia) (by lia)
  walk_at "m go"
  try dsimp only
  rename (_ = (slicePick _ (some _) none _).toList) => e2
  rename (_ = (slicePick _ none (some _) _).toList) => e1
  refine' segF_end (kk _ _ (k _ _ _ ‹_› (moved_ok hvs e1 e2))) (rs := ?rs3) ‹_› ‹_› (by k_dflt assumption) ?l ?fr ?t
  case l => walk_at "m loc"
  case fr => walk_at "m fr"
  case t => walk_at "m take"
end E_seg_f6
end
theorem seg_f6 : ∀ {w g s p loose mean mg mb L' Q E m rest U a na q t up vs mc c10 c11 x11}, E_seg_f6.P w g s p loose mean mg mb L' Q E m rest U a na q t up vs mc c10 c11 x11 := fun {w g s p loose mean mg mb L' Q E m rest U a na q t up vs mc c10 c11 x11} => by with_unfolding_all exact pk (c := E_seg_f6.ζ) rfl E_seg_f6.core (((((w, g), (s, p)), ((loose, mean), (mg, mb))), (((L', Q), (E, m)), ((rest, U), (a, na)))), (((q, t), (up, vs)), ((mc, c10), (c11, x11))))
end
section
noncomputable section
namespace E_seg_f7
def P (w : World) (g : Heap) (s : Shared) (p : Program) (loose : List Str) (mean : EoV) (mg mb : SoV) (L' : Addr) (Q : FsP) (E : VsP) (m : SoV) (rest : List Stmt) (U : Led) (la : List Nat) (tl : Tok) : Prop := (∀ c ∈ la ++ [32, 32], c < 128) → ((la ++ [32, 32]).length ≤ 200) → (la.length ≤ 198) → SegFS w g s p loose mean mg mb L' Q E m rest (lawRun 7 1 (blockOf 13 lawBody) rest) [(Str.ofString "lacks", .str (Tx la) tl)] (U) [Str.ofString "longer"] (fun K => ∀ (xg : Addr) (dg : Ws), WsOk (la ++ [32, 32]) dg → K [(Str.ofString "longer", .ref xg), (Str.ofString "lacks", .str (Tx la) tl)] (wsT w xg dg ++ U))
@[irreducible] def ζ := upick (by walk_at "m ne") (un16 P)
@[irreducible] def w := ζ.1.1.1.1
@[irreducible] def g := ζ.1.1.1.2
@[irreducible] def s := ζ.1.1.2.1
@[irreducible] def L' := ζ.2.1.1.1
@[irreducible] def Q := ζ.2.1.1.2
@[irreducible] def E := ζ.2.1.2.1
@[irreducible] def m := ζ.2.1.2.2
@[irreducible] def rest := ζ.2.2.1.1
theorem core : P w g s ζ.1.1.2.2 ζ.1.2.1.1 ζ.1.2.1.2 ζ.1.2.2.1 ζ.1.2.2.2 L' Q E m rest ζ.2.2.1.2 ζ.2.2.2.1 ζ.2.2.2.2 := by
  intro hla hl1 hl2 X Tp F N ND K kk k
  revert X; k_fill; intro X
  show wpAny _ _ (execs (_ :: rest) _) _ _ _
  dsimp only [lawEnv, List.map] at *
  have hl3 : ζ.2.2.2.1.length ≤ 2000 := by lia
  walk_at "m go"
  try dsimp only
  rename Ws => dw
  rename (WsOk _ _) => hdw
  refine' segF_end (kk _ _ (k _ dw hdw)) (rs := ?rs3) ‹_› ‹_› (by k_dflt assumption) ?l ?fr ?t
  case l => walk_at "m loc"
  case fr => walk_at "m fr"
  case t => walk_at "m take"
end E_seg_f7
end
theorem seg_f7 : ∀ {w g s p loose mean mg mb L' Q E m rest U la tl}, E_seg_f7.P w g s p loose mean mg mb L' Q E m rest U la tl := fun {w g s p loose mean mg mb L' Q E m rest U la tl} => by with_unfolding_all exact pk (c := E_seg_f7.ζ) rfl E_seg_f7.core ((((w, g), (s, p)), ((loose, mean), (mg, mb))), (((L', Q), (E, m)), ((rest, U), (la, tl))))
end
section
noncomputable section
namespace E_seg_f8
def P (w : World) (g : Heap) (s : Shared) (p : Program) (loose : List Str) (mean : EoV) (mg mb : SoV) (L' : Addr) (Q : FsP) (E : VsP) (m : SoV) (rest : List Stmt) (U : Led) (a : Addr) (na : Nat) (vs : List Value) (mc : List Nat) (c11 : Obj) : Prop := (mc.length ≤ 6) → (∀ d ∈ mc, d ≤ 12) → (IntsAre vs (intsN mc)) → (c11.data = .cell (some (.ref a))) → SegFS w g s p loose mean mg mb L' Q E m rest (lawRun 8 1 (blockOf 13 lawBody) rest) [] ((L' + 11, c11) :: (a, W.listOf vs.toArray na) :: U) [Str.ofString "other"] (fun K => ∀ (xl : Addr) (dl : Ws), WsOk (runsL (intsN mc)) dl → K [(Str.ofString "other", .ref xl)] (wsT w xl dl ++ ((L' + 11, c11) :: (a, W.listOf vs.toArray na) :: U)))
@[irreducible] def ζ := upick (by walk_at "m ne") ((ucat un16 (ucat un2 un1)) P)
@[irreducible] def w := ζ.1.1.1.1.1
@[irreducible] def g := ζ.1.1.1.1.2
@[irreducible] def s := ζ.1.1.1.2.1
@[irreducible] def L' := ζ.1.2.1.1.1
@[irreducible] def Q := ζ.1.2.1.1.2
@[irreducible] def E := ζ.1.2.1.2.1
@[irreducible] def m := ζ.1.2.1.2.2
@[irreducible] def rest := ζ.1.2.2.1.1
@[irreducible] def mc := ζ.2.1.2
theorem core : P w g s ζ.1.1.1.2.2 ζ.1.1.2.1.1 ζ.1.1.2.1.2 ζ.1.1.2.2.1 ζ.1.1.2.2.2 L' Q E m rest ζ.1.2.2.1.2 ζ.1.2.2.2.1 ζ.1.2.2.2.2 ζ.2.1.1 mc ζ.2.2 := by
  intro hml hmb hvs d11 X Tp F N ND K kk k
  revert X; k_fill; intro X
  show wpAny _ _ (execs (_ :: rest) _) _ _ _
  dsimp only [lawEnv, List.map] at *
  have h1 : (intsN mc).length ≤ 20 := by simp [intsN]; lia
  have h2 : ∀ n ∈ intsN mc, n ≤ (1000 : Nat) := ints_leB hmb (by decide)
  have h3 : ∀ n ∈ intsN mc, 0 ≤ n := ints_ge mc
  have h4 : (runsL (intsN mc)).length ≤ 200 := runsN_lenB hml hmb
  walk_at "m go"
  try dsimp only
  rename Ws => dw
  rename (WsOk _ _) => hdw
  refine' segF_end (kk _ _ (k _ dw hdw)) (rs := ?rs3) ‹_› ‹_› (by k_dflt assumption) ?l ?fr ?t
  case l => walk_at "m loc"
  case fr => walk_at "m fr"
  case t => walk_at "m take"
end E_seg_f8
end
theorem seg_f8 : ∀ {w g s p loose mean mg mb L' Q E m rest U a na vs mc c11}, E_seg_f8.P w g s p loose mean mg mb L' Q E m rest U a na vs mc c11 := fun {w g s p loose mean mg mb L' Q E m rest U a na vs mc c11} => by with_unfolding_all exact pk (c := E_seg_f8.ζ) rfl E_seg_f8.core (((((w, g), (s, p)), ((loose, mean), (mg, mb))), (((L', Q), (E, m)), ((rest, U), (a, na)))), ((vs, mc), c11))
end
section
noncomputable section
namespace E_seg_f9
def P (w : World) (g : Heap) (s : Shared) (p : Program) (loose : List Str) (mean : EoV) (mg mb : SoV) (L' : Addr) (Q : FsP) (E : VsP) (m : SoV) (rest : List Stmt) (U : Led) (xg xl xo a : Addr) (dg dl dz : Ws) (lg ll lo : List Nat) (vs : List Value) (mc : List Nat) (na q : Nat) (up : Tok) (c10 : Obj) : Prop := (WsOk lg dg) → (WsOk ll dl) → (WsOk lo dz) → (lg.length ≤ 200) → (ll.length ≤ 200) → (lo.length ≤ 200) → (IntsAre vs (intsN mc)) → (mc.length ≤ 6) → (q ≤ 6) → (equalW (wsOf lg) (wsOf ll) = false) → (equalW (wsOf ll) (wsOf lo) = decide (0 ∈ (mc.drop q).take 2)) → (c10.data = .cell (some (.ref a))) → SegFS w g s p loose mean mg mb L' Q E m rest (lawRun 9 1 (blockOf 13 lawBody) rest) [(Str.ofString "longer", .ref xg), (Str.ofString "lead", .ref xl), (Str.ofString "other", .ref xo), (Str.ofString "place", .int (q : Int) up)] (wsT w xg dg ++ (wsT w xl dl ++ (wsT w xo dz ++ ((L' + 10, c10) :: (a, W.listOf vs.toArray na) :: U)))) [] (fun K => K [(Str.ofString "longer", .ref xg), (Str.ofString "lead", .ref xl), (Str.ofString "other", .ref xo), (Str.ofString "place", .int (q : Int) up)] (wsT w xg dg ++ (wsT w xl dl ++ (wsT w xo dz ++ ((L' + 10, c10) :: (a, W.listOf vs.toArray na) :: U)))))
@[irreducible] def ζ := upick (by walk_at "m ne") ((ucat un16 (ucat un8 (ucat un4 un2))) P)
@[irreducible] def w := ζ.1.1.1.1.1
@[irreducible] def g := ζ.1.1.1.1.2
@[irreducible] def s := ζ.1.1.1.2.1
@[irreducible] def L' := ζ.1.2.1.1.1
@[irreducible] def Q := ζ.1.2.1.1.2
@[irreducible] def E := ζ.1.2.1.2.1
@[irreducible] def m := ζ.1.2.1.2.2
@[irreducible] def rest := ζ.1.2.2.1.1
@[irreducible] def q := ζ.2.2.1.2.2
theorem core : P w g s ζ.1.1.1.2.2 ζ.1.1.2.1.1 ζ.1.1.2.1.2 ζ.1.1.2.2.1 ζ.1.1.2.2.2 L' Q E m rest ζ.1.2.2.1.2 ζ.1.2.2.2.1 ζ.1.2.2.2.2 ζ.2.1.1.1.1 ζ.2.1.1.1.2 ζ.2.1.1.2.1 ζ.2.1.1.2.2 ζ.2.1.2.1.1 ζ.2.1.2.1.2 ζ.2.1.2.2.1 ζ.2.1.2.2.2 ζ.2.2.1.1.1 ζ.2.2.1.1.2 ζ.2.2.1.2.1 q ζ.2.2.2.1 ζ.2.2.2.2 := by
  intro hdg hdl hdz hl1 hl2 hl3 hvs hml hq6 e1 e2 d10 X Tp F N ND K kk k
  revert X; k_fill; intro X
  show wpAny _ _ (execs (_ :: rest) _) _ _ _
  dsimp only [lawEnv, List.map] at *
  have hvl : ζ.2.2.1.1.1.length ≤ 6 := by have := hvs.length; rw [this]; simp [intsN]; lia
  walk_at "m go"
  · exfalso
    rename (_ = true) => he
    rw [e1] at he
    simp at he
  · rename (_ = (slicePick _ (some _) (some _) _).toList) => e3
    rw [slice_nat (a := q) (b := q + 2) rfl (by lia), show q + 2 - q = 2 by lia] at e3
    have hin := ints_take 2 (ints_drop q hvs)
    rw [← e3] at hin
    refine' in_list_ints (listAt ?N ?q1) hin ?_
    case N => k_asm
    case q1 => k_mem
    k_whole
    rw [any_zero, e2]
    walk_at "m go"
    · exfalso
      rename (_ = true) => he
      simp at he
    · dsimp only
      refine' segF_end (kk _ _ (k)) (rs := ?rs3) ‹_› ‹_› (by k_dflt assumption) ?l ?fr ?t
      case l => walk_at "m loc"
      case fr => walk_at "m fr"
      case t => walk_at "m take"
end E_seg_f9
end
theorem seg_f9 : ∀ {w g s p loose mean mg mb L' Q E m rest U xg xl xo a dg dl dz lg ll lo vs mc na q up c10}, E_seg_f9.P w g s p loose mean mg mb L' Q E m rest U xg xl xo a dg dl dz lg ll lo vs mc na q up c10 := fun {w g s p loose mean mg mb L' Q E m rest U xg xl xo a dg dl dz lg ll lo vs mc na q up c10} => by with_unfolding_all exact pk (c := E_seg_f9.ζ) rfl E_seg_f9.core (((((w, g), (s, p)), ((loose, mean), (mg, mb))), (((L', Q), (E, m)), ((rest, U), (xg, xl)))), ((((xo, a), (dg, dl)), ((dz, lg), (ll, lo))), (((vs, mc), (na, q)), (up, c10))))
end
section
inductive JL (L' a Dm : Addr) (vs mv : List Value) (mc mm : List Nat) (na nm : Nat) (c10 c11 : Obj) (U : List (Addr × Obj)) (k : Nat) (ys : List Value) (T : List (Addr × Obj)) : Prop
  | mk (hs : List LV) (q0 : ys = levV hs) (q1 : levD hs = (List.range k).map (colT mc mm)) (q2 : T = (L' + 10, c10) :: (a, W.listOf vs.toArray na) :: (L' + 11, c11) :: (Dm, W.listOf mv.toArray nm) :: (levT hs ++ U)) : JL L' a Dm vs mv mc mm na nm c10 c11 U k ys T
noncomputable section
namespace E_seg_f10
def P (w : World) (g : Heap) (s : Shared) (p : Program) (loose : List Str) (mean : EoV) (mg mb : SoV) (L' : Addr) (Q : FsP) (E : VsP) (m : SoV) (rest : List Stmt) (U : Led) (a Dm : Addr) (vs mv : List Value) (mc mm : List Nat) (na nm : Nat) (c10 c11 : Obj) : Prop := (mc.length ≤ 6) → (∀ d ∈ mc, d ≤ 6) → (IntsAre vs (intsN mc)) → (mm.length ≤ 6) → (∀ d ∈ mm, d ≤ 12) → (IntsAre mv (intsN mm)) → (c10.data = .cell (some (.ref a))) → (c11.data = .cell (some (.ref Dm))) → SegFS w g s p loose mean mg mb L' Q E m rest (lawRun 10 1 (blockOf 13 lawBody) rest) [] ((L' + 10, c10) :: (a, W.listOf vs.toArray na) :: (L' + 11, c11) :: (Dm, W.listOf mv.toArray nm) :: U) [Str.ofString "levels"] (fun K => ∀ (Dv : Addr) (hs : List LV), levD hs = (List.range (maxL mm + 1)).map (colT mc mm) → K [(Str.ofString "levels", .ref Dv)] ((Dv, lst (levV hs)) :: (L' + 10, c10) :: (a, W.listOf vs.toArray na) :: (L' + 11, c11) :: (Dm, W.listOf mv.toArray nm) :: (levT hs ++ U)))
@[irreducible] def ζ := upick (by walk_at "m ne") ((ucat un16 un8) P)
@[irreducible] def w := ζ.1.1.1.1.1
@[irreducible] def g := ζ.1.1.1.1.2
@[irreducible] def s := ζ.1.1.1.2.1
@[irreducible] def L' := ζ.1.2.1.1.1
@[irreducible] def Q := ζ.1.2.1.1.2
@[irreducible] def E := ζ.1.2.1.2.1
@[irreducible] def m := ζ.1.2.1.2.2
@[irreducible] def rest := ζ.1.2.2.1.1
@[irreducible] def U := ζ.1.2.2.1.2
@[irreducible] def a := ζ.1.2.2.2.1
@[irreducible] def Dm := ζ.1.2.2.2.2
@[irreducible] def vs := ζ.2.1.1.1
@[irreducible] def mv := ζ.2.1.1.2
@[irreducible] def mc := ζ.2.1.2.1
@[irreducible] def mm := ζ.2.1.2.2
@[irreducible] def na := ζ.2.2.1.1
@[irreducible] def nm := ζ.2.2.1.2
@[irreducible] def c10 := ζ.2.2.2.1
@[irreducible] def c11 := ζ.2.2.2.2
theorem core : P w g s ζ.1.1.1.2.2 ζ.1.1.2.1.1 ζ.1.1.2.1.2 ζ.1.1.2.2.1 ζ.1.1.2.2.2 L' Q E m rest U a Dm vs mv mc mm na nm c10 c11 := by
  intro hml hmb hvs hnl hnb hmv d10 d11 X Tp F N ND K kk k
  revert X; k_fill; intro X
  show wpAny _ _ (execs (_ :: rest) _) _ _ _
  dsimp only [lawEnv, List.map] at *
  have h1 : (intsN mc).length ≤ 20 := by simp [intsN]; lia
  have h2 : ∀ n ∈ intsN mc, 0 ≤ n ∧ n ≤ 100 := fun n hn => ⟨ints_ge mc n hn, ints_leB hmb (by decide : 6 ≤ 100) n hn⟩
  have h3 : (intsN mm).length ≤ 20 := by simp [intsN]; lia
  have h4 : ∀ n ∈ intsN mm, 0 ≤ n ∧ n ≤ 100 := fun n hn => ⟨ints_ge mm n hn, ints_leB hnb (by decide : 12 ≤ 100) n hn⟩
  have hM := max_le hnb
  have hvl : mv.length ≤ 6 := by have := hmv.length; rw [this]; simp [intsN]; lia
  walk_at "m go"
  unfold Halt
  refine comp_range (n := maxL mm + 1) (J := JL L' a Dm vs mv mc mm na nm c10 c11 U) (by rfl) ‹_› (T₀ := ((L' + 10, c10) :: (a, W.listOf vs.toArray na) :: (L' + 11, c11) :: (Dm, W.listOf mv.toArray nm) :: U)) ?N0 ?nd0 ‹_› (rg_small (by lia) (by lia) (by lia) (by lia)) (rg_size (by split <;> lia)) (by lia) ⟨[], rfl, rfl, rfl⟩ ?_ ?_
  case N0 => exact (take2 (T := ((L' + 10, c10) :: (a, W.listOf vs.toArray na) :: (L' + 11, c11) :: (Dm, W.listOf mv.toArray nm) :: U)) ‹_› (by k_dflt assumption) (by walk_at "m take")).1
  case nd0 => exact (take2 (T := ((L' + 10, c10) :: (a, W.listOf vs.toArray na) :: (L' + 11, c11) :: (Dm, W.listOf mv.toArray nm) :: U)) ‹_› (by k_dflt assumption) (by walk_at "m take")).2
  · intro i t_ ys' T I oI C oC D' m₂ h₂ tk₂ E₂ hi' j hC hx F₂ N₂ nd₂
    obtain ⟨hs, rfl, hd, rfl⟩ := j
    dsimp only at F₂ N₂ nd₂ ⊢
    walk_at "m go"
    try dsimp only
    rename Addr => aa
    refine' TurnC.mk (rest := []) ‹_› ‹_› (by k_dflt assumption) _ ?tkz ⟨(aa, colT mc mm i, _, _, _) :: hs, (levV_cons (aa, colT mc mm i, _, _, _) hs).symm, levD_next hd rfl, rfl⟩
    case tkz => (dsimp only [levT_cons, colT, columnI, List.cons_append, List.nil_append]); walk_at "m take"
  intro gg ys' T j nd D' h₃ tk₃ F₃ N₃ o1
  obtain ⟨hs, rfl, hd, rfl⟩ := j
  have ND₃ := apart1_of o1 nd
  clear o1 nd
  dsimp only at *
  refine' segF_end (kk _ _ (k _ hs hd)) (rs := ?rs3) ‹_› ‹_› (by k_dflt assumption) ?l ?fr ?t
  case l => walk_at "m loc"
  case fr => walk_at "m fr"
  case t => walk_at "m take"
end E_seg_f10
end
theorem seg_f10 : ∀ {w g s p loose mean mg mb L' Q E m rest U a Dm vs mv mc mm na nm c10 c11}, E_seg_f10.P w g s p loose mean mg mb L' Q E m rest U a Dm vs mv mc mm na nm c10 c11 := fun {w g s p loose mean mg mb L' Q E m rest U a Dm vs mv mc mm na nm c10 c11} => by with_unfolding_all exact pk (c := E_seg_f10.ζ) rfl E_seg_f10.core (((((w, g), (s, p)), ((loose, mean), (mg, mb))), (((L', Q), (E, m)), ((rest, U), (a, Dm)))), (((vs, mv), (mc, mm)), ((na, nm), (c10, c11))))
end
section
local macro_rules | `(tactic| walk_at "compareOp NotEq ref ref") => `(tactic| (k_here; refine' halt ?_))
noncomputable section
namespace E_seg_f11
def P (w : World) (g : Heap) (s : Shared) (p : Program) (loose : List Str) (mean : EoV) (mg mb : SoV) (L' : Addr) (Q : FsP) (E : VsP) (m : SoV) (rest : List Stmt) (U : Led) (xg xo Dv : Addr) (dg dz : Ws) (lg lo : List Nat) (hs : List LV) (mc mm : List Nat) (nv M : Nat) : Prop := (WsOk lg dg) → (WsOk lo dz) → (lg.length ≤ 200) → (lo.length ≤ 200) → (M ≤ 20) → (levD hs = (List.range M).map (colT mc mm)) → (witW (wsOf lg) (wsOf lo) = diffs M (colT mc mm)) → SegFS w g s p loose mean mg mb L' Q E m rest (lawRun 11 1 (blockOf 13 lawBody) rest) [(Str.ofString "longer", .ref xg), (Str.ofString "other", .ref xo), (Str.ofString "levels", .ref Dv)] (wsT w xg dg ++ (wsT w xo dz ++ ((Dv, W.listOf (levV hs).toArray nv) :: (levT hs ++ U)))) [] (fun K => K [(Str.ofString "longer", .ref xg), (Str.ofString "other", .ref xo), (Str.ofString "levels", .ref Dv)] (wsT w xg dg ++ (wsT w xo dz ++ ((Dv, W.listOf (levV hs).toArray nv) :: (levT hs ++ U)))))
@[irreducible] def ζ := upick (by walk_at "m ne") ((ucat un16 (ucat un8 un2)) P)
@[irreducible] def w := ζ.1.1.1.1.1
@[irreducible] def g := ζ.1.1.1.1.2
@[irreducible] def s := ζ.1.1.1.2.1
@[irreducible] def p := ζ.1.1.1.2.2
@[irreducible] def L' := ζ.1.2.1.1.1
@[irreducible] def Q := ζ.1.2.1.1.2
@[irreducible] def E := ζ.1.2.1.2.1
@[irreducible] def m := ζ.1.2.1.2.2
@[irreducible] def rest := ζ.1.2.2.1.1
@[irreducible] def hs := ζ.2.1.2.1.2
@[irreducible] def mc := ζ.2.1.2.2.1
@[irreducible] def mm := ζ.2.1.2.2.2
@[irreducible] def M := ζ.2.2.2
theorem core : P w g s p ζ.1.1.2.1.1 ζ.1.1.2.1.2 ζ.1.1.2.2.1 ζ.1.1.2.2.2 L' Q E m rest ζ.1.2.2.1.2 ζ.1.2.2.2.1 ζ.1.2.2.2.2 ζ.2.1.1.1.1 ζ.2.1.1.1.2 ζ.2.1.1.2.1 ζ.2.1.1.2.2 ζ.2.1.2.1.1 hs mc mm ζ.2.2.1 M := by
  intro hdg hdz hl1 hl3 hM hdd hwit X Tp F N ND K kk k
  revert X; k_fill; intro X
  show wpAny _ _ (execs (_ :: rest) _) _ _ _
  dsimp only [lawEnv, List.map] at *
  have hvl : (levV hs).length = M := by have := congrArg List.length hdd; simp [levD] at this; simp [levV, this]
  walk_at "m go"
  refine' call_spec (sp_witW ζ.1.2.2.2.1 ζ.1.2.2.2.2 ζ.2.1.1.1.2 ζ.2.1.1.2.1 ζ.2.1.1.2.2 ζ.2.1.2.1.1 hdg hdz hl1 hl3) ?F ?X ?Tp ?N ?nd ?tk ?hA ?_
  case F => k_asm
  case X => k_asm
  case Tp => k_asm
  case N => k_asm
  case tk => walk_at "m take"
  case nd => k_dflt assumption
  case hA => exact ale_lv (by rfl) (Nat.le_of_ble_eq_true rfl) (Nat.le_of_ble_eq_true rfl)
  k_whole
  intro v' T' h' tk' hP F' N' hND
  obtain ⟨la, cc, ws, U₂, hv, hT, hra⟩ := hP
  subst hv
  subst hT
  obtain ⟨N2, nd2⟩ := take2 N' hND (f11_tk (wsT w ζ.1.2.2.2.1 ζ.2.1.1.1.2) (wsT w ζ.1.2.2.2.2 ζ.2.1.1.2.1) (levT hs) ζ.1.2.2.1.2 U₂ (la, W.listOf ws.toArray cc) (ζ.2.1.1.1.1, W.listOf (levV hs).toArray ζ.2.2.1))
  clear N' hND
  walk_at "m go"
  unfold Halt
  refine compT_list (vs := levV hs) (c := ζ.2.2.1) (J := fun k ys T => RdA (levT hs) ys (diffs k (colT mc mm)) ∧ T = ((ζ.2.1.1.1.1, W.listOf (levV hs).toArray ζ.2.2.1) :: (la, W.listOf ws.toArray cc) :: (wsT w ζ.1.2.2.2.1 ζ.2.1.1.1.2 ++ (wsT w ζ.1.2.2.2.2 ζ.2.1.1.2.1 ++ (levT hs ++ (U₂ ++ ζ.1.2.2.1.2)))))) (by rfl) ‹_› N2 nd2 (by lia) ⟨RdA.nil, rfl⟩ (fun i ys T j => by rw [j.2]; k_mem) ?_ ?_
  · intro i v ys T I oI C oC D m₂ h₂ tk₂ E₂ hin hv j hC hx F₂ N₂ nd₂
    obtain ⟨hy, rfl⟩ := j
    obtain ⟨a1, t1, t2, t3, rfl, hme⟩ := lev_get hdd hv
    dsimp only at F₂ N₂ nd₂ ⊢
    walk_at "m go"
    · refine TurnC.mk (rest := []) ‹_› ‹_› (by k_dflt assumption) _ ?tk1 ⟨?e1, rfl⟩
      case tk1 => exact TakeAll.whole
      case e1 => rw [diffs_yes ‹_›]; exact RdA.snoc hy (Rd.tup hme (RdA.cons (Rd.int _ _) (RdA.cons (Rd.int _ _) (RdA.cons (Rd.int _ _) RdA.nil))))
    · refine TurnC.mk (rest := []) ‹_› ‹_› (by k_dflt assumption) _ ?tk2 ⟨?e2, rfl⟩
      case tk2 => exact TakeAll.whole
      case e2 => rw [diffs_no ‹_›]; exact hy
  intro gg ys T j nd D h₃ tk₃ F₃ N₃ o1
  obtain ⟨hy, rfl⟩ := j
  have ND₃ := apart1_of o1 nd
  clear o1 nd
  rw [hvl] at hy
  rw [hwit] at hra
  have heq := diffs_eqv (colT mc mm) M
  have hsh := diffs_sh M (colT mc mm)
  generalize diffs M (colT mc mm) = dsz at heq hsh hy hra
  dsimp only at *
  walk_at "m go"
  unfold Halt
  refine' ne_rd (led := ?led) (da := .list dsz) (db := .list dsz) ?N ?ra ?rb hsh hsh ?hu ?_
  case N => exact N₃
  case ra => exact Rd.list (by k_mem) (hra.mono fun p hp => by simp only [List.mem_cons, List.mem_append, hp, true_or, or_true])
  case rb => exact Rd.list (by k_mem) (hy.mono fun p hp => by simp only [List.mem_cons, List.mem_append, hp, true_or, or_true])
  case hu => ke_room
  k_whole
  rw [heq]
  walk_at "m go"
  try dsimp only
  refine' segF_end (kk _ _ (k)) (rs := [(D, lst ys), (la, W.listOf ws.toArray cc)] ++ U₂) ‹_› N₃ ND₃ ?l ?fr ?t
  case l => walk_at "m loc"
  case fr => walk_at "m fr"
  case t => exact f11_tk2 _ _ _ _ _ _ _ _
end E_seg_f11
end
theorem seg_f11 : ∀ {w g s p loose mean mg mb L' Q E m rest U xg xo Dv dg dz lg lo hs mc mm nv M}, E_seg_f11.P w g s p loose mean mg mb L' Q E m rest U xg xo Dv dg dz lg lo hs mc mm nv M := fun {w g s p loose mean mg mb L' Q E m rest U xg xo Dv dg dz lg lo hs mc mm nv M} => by with_unfolding_all exact pk (c := E_seg_f11.ζ) rfl E_seg_f11.core (((((w, g), (s, p)), ((loose, mean), (mg, mb))), (((L', Q), (E, m)), ((rest, U), (xg, xo)))), ((((Dv, dg), (dz, lg)), ((lo, hs), (mc, mm))), (nv, M)))
end
section
inductive JF (L' D Dl : Addr) (t tu nr ny : Nat) (ys : List Value) (al : List Addr) (rs : List (Addr × List Value × Nat)) (u1 u4 : Tok) (c3 c4 : Obj) (U : List (Addr × Obj)) (_ : Nat) (V : List (Str × Value)) (T : List (Addr × Obj)) : Prop
  | mk (c10 c11 : Obj) (x10 x11 : Option Value) (q0 : c10.data = .cell x10) (q1 : c11.data = .cell x11) (q2 : V = [(Str.ofString "runs", .ref Dl), (Str.ofString "turn", .int (tu : Int) u4), (Str.ofString "total", .int (t : Int) u1), (Str.ofString "heaps", .ref D)]) (q3 : T = (L' + 3, c3) :: ((L' + 4, c4) :: ((L' + 10, c10) :: ((L' + 11, c11) :: ((Dl, W.listOf (al.map Value.ref).toArray nr) :: ((D, W.listOf ys.toArray ny) :: (runsT rs ++ ((U))))))))) : JF L' D Dl t tu nr ny ys al rs u1 u4 c3 c4 U _ V T
theorem fa_tk1 (p0 p1 p2 p3 p4 p5 p6 : Addr × Obj) (B7 B8 : Led) : TakeAll (p0 :: (p1 :: (p2 :: (p3 :: (p4 :: (p5 :: (p6 :: (B7 ++ (B8))))))))) (p2 :: (p5 :: (p3 :: (p0 :: (p1 :: (p4 :: (p6 :: (B7 ++ (B8))))))))) ([]) := take_blocks [[p0], [p1], [p2], [p3], [p4], [p5], [p6], B7, B8] 9 rfl [2, 5, 3, 0, 1, 4, 6, 7, 8] [] (by decide +kernel)
theorem fa_tk2 (p0 p1 p2 p3 p4 p5 p6 : Addr × Obj) (B7 B8 : Led) : TakeAll (p0 :: (p1 :: (p2 :: (p3 :: (p4 :: (p5 :: (p6 :: (B7 ++ (B8))))))))) (B7 ++ (p0 :: (p1 :: (p2 :: (p3 :: (p4 :: (p5 :: (p6 :: (B8))))))))) ([]) := take_blocks [[p0], [p1], [p2], [p3], [p4], [p5], [p6], B7, B8] 9 rfl [7, 0, 1, 2, 3, 4, 5, 6, 8] [] (by decide +kernel)
theorem fa_tk3 (B0 : Led) (p1 : Addr × Obj) (B2 : Led) (p3 p4 p5 p6 p7 p8 p9 : Addr × Obj) (B10 : Led) : TakeAll (B0 ++ (p1 :: (B2 ++ (p3 :: (p4 :: (p5 :: (p6 :: (p7 :: (p8 :: (p9 :: (B10))))))))))) (p5 :: (p1 :: (B0 ++ (B2 ++ (p3 :: (p4 :: (p6 :: (p7 :: (p8 :: (p9 :: (B10))))))))))) ([]) := take_blocks [B0, [p1], B2, [p3], [p4], [p5], [p6], [p7], [p8], [p9], B10] 11 rfl [5, 1, 0, 2, 3, 4, 6, 7, 8, 9, 10] [] (by decide +kernel)
theorem fa_tk4 (B0 : Led) (p1 p2 : Addr × Obj) (B3 B4 : Led) (p5 p6 p7 p8 p9 p10 : Addr × Obj) (B11 : Led) : TakeAll (B0 ++ (p1 :: (p2 :: (B3 ++ (B4 ++ (p5 :: (p6 :: (p7 :: (p8 :: (p9 :: (p10 :: (B11)))))))))))) (B3 ++ (p2 :: (B4 ++ (B0 ++ (p1 :: (p5 :: (p6 :: (p7 :: (p8 :: (p9 :: (p10 :: (B11)))))))))))) ([]) := take_blocks [B0, [p1], [p2], B3, B4, [p5], [p6], [p7], [p8], [p9], [p10], B11] 12 rfl [3, 2, 4, 0, 1, 5, 6, 7, 8, 9, 10, 11] [] (by decide +kernel)
theorem fa_tk5 (B0 B1 : Led) (p2 p3 p4 p5 p6 p7 p8 : Addr × Obj) (B9 : Led) : TakeAll (B0 ++ (B1 ++ (p2 :: (p3 :: (p4 :: (p5 :: (p6 :: (p7 :: (p8 :: (B9)))))))))) (B0 ++ (B1 ++ (p2 :: (p3 :: (p4 :: (p5 :: (p6 :: (p7 :: (p8 :: (B9)))))))))) ([]) := take_blocks [B0, B1, [p2], [p3], [p4], [p5], [p6], [p7], [p8], B9] 10 rfl [0, 1, 2, 3, 4, 5, 6, 7, 8, 9] [] (by decide +kernel)
theorem fa_tk6 (B0 : Led) (p1 : Addr × Obj) (B2 B3 : Led) (p4 p5 p6 p7 p8 p9 p10 : Addr × Obj) (B11 : Led) : TakeAll (B0 ++ (p1 :: (B2 ++ (B3 ++ (p4 :: (p5 :: (p6 :: (p7 :: (p8 :: (p9 :: (p10 :: (B11)))))))))))) (p8 :: (p6 :: (p1 :: (B0 ++ (B2 ++ (B3 ++ (p4 :: (p5 :: (p7 :: (p9 :: (p10 :: (B11)))))))))))) ([]) := take_blocks [B0, [p1], B2, B3, [p4], [p5], [p6], [p7], [p8], [p9], [p10], B11] 12 rfl [8, 6, 1, 0, 2, 3, 4, 5, 7, 9, 10, 11] [] (by decide +kernel)
theorem fa_tk7 (p0 p1 p2 : Addr × Obj) (B3 B4 B5 : Led) (p6 p7 p8 p9 p10 : Addr × Obj) (B11 : Led) : TakeAll (p0 :: (p1 :: (p2 :: (B3 ++ (B4 ++ (B5 ++ (p6 :: (p7 :: (p8 :: (p9 :: (p10 :: (B11)))))))))))) (B3 ++ (p2 :: (B4 ++ (p0 :: (p1 :: (B5 ++ (p6 :: (p7 :: (p8 :: (p9 :: (p10 :: (B11)))))))))))) ([]) := take_blocks [[p0], [p1], [p2], B3, B4, B5, [p6], [p7], [p8], [p9], [p10], B11] 12 rfl [3, 2, 4, 0, 1, 5, 6, 7, 8, 9, 10, 11] [] (by decide +kernel)
theorem fa_tk8 (B0 : Led) (p1 p2 : Addr × Obj) (B3 : Led) (p4 p5 p6 p7 p8 : Addr × Obj) (B9 : Led) : TakeAll (B0 ++ (p1 :: (p2 :: (B3 ++ (p4 :: (p5 :: (p6 :: (p7 :: (p8 :: (B9)))))))))) (B3 ++ (B0 ++ (p1 :: (p2 :: (p4 :: (p5 :: (p6 :: (p7 :: (p8 :: (B9)))))))))) ([]) := take_blocks [B0, [p1], [p2], B3, [p4], [p5], [p6], [p7], [p8], B9] 10 rfl [3, 0, 1, 2, 4, 5, 6, 7, 8, 9] [] (by decide +kernel)
theorem fa_tk9 (B0 B1 : Led) (p2 p3 p4 p5 p6 p7 p8 : Addr × Obj) (B9 : Led) : TakeAll (B0 ++ (B1 ++ (p2 :: (p3 :: (p4 :: (p5 :: (p6 :: (p7 :: (p8 :: (B9)))))))))) (p5 :: (B0 ++ (B1 ++ (p2 :: (p3 :: (p4 :: (p6 :: (p7 :: (p8 :: (B9)))))))))) ([]) := take_blocks [B0, B1, [p2], [p3], [p4], [p5], [p6], [p7], [p8], B9] 10 rfl [5, 0, 1, 2, 3, 4, 6, 7, 8, 9] [] (by decide +kernel)
theorem fa_tk10 (p0 : Addr × Obj) (B1 B2 : Led) (p3 p4 p5 p6 p7 p8 : Addr × Obj) (B9 : Led) : TakeAll (p0 :: (B1 ++ (B2 ++ (p3 :: (p4 :: (p5 :: (p6 :: (p7 :: (p8 :: (B9)))))))))) (p8 :: (p0 :: (B1 ++ (B2 ++ (p3 :: (p4 :: (p5 :: (p6 :: (p7 :: (B9)))))))))) ([]) := take_blocks [[p0], B1, B2, [p3], [p4], [p5], [p6], [p7], [p8], B9] 10 rfl [8, 0, 1, 2, 3, 4, 5, 6, 7, 9] [] (by decide +kernel)
theorem fa_tk11 (p0 p1 : Addr × Obj) (B2 B3 : Led) (p4 p5 p6 p7 p8 : Addr × Obj) (B9 : Led) : TakeAll (p0 :: (p1 :: (B2 ++ (B3 ++ (p4 :: (p5 :: (p6 :: (p7 :: (p8 :: (B9)))))))))) (B3 ++ (p0 :: (p1 :: (B2 ++ (p4 :: (p5 :: (p6 :: (p7 :: (p8 :: (B9)))))))))) ([]) := take_blocks [[p0], [p1], B2, B3, [p4], [p5], [p6], [p7], [p8], B9] 10 rfl [3, 0, 1, 2, 4, 5, 6, 7, 8, 9] [] (by decide +kernel)
theorem fa_tk12 (B0 : Led) (p1 : Addr × Obj) (B2 : Led) (p3 p4 : Addr × Obj) (B5 : Led) (p6 p7 p8 p9 p10 : Addr × Obj) (B11 : Led) : TakeAll (B0 ++ (p1 :: (B2 ++ (p3 :: (p4 :: (B5 ++ (p6 :: (p7 :: (p8 :: (p9 :: (p10 :: (B11)))))))))))) (p8 :: (p1 :: (p10 :: (B0 ++ (B2 ++ (p3 :: (p4 :: (B5 ++ (p6 :: (p7 :: (p9 :: (B11)))))))))))) ([]) := take_blocks [B0, [p1], B2, [p3], [p4], B5, [p6], [p7], [p8], [p9], [p10], B11] 12 rfl [8, 1, 10, 0, 2, 3, 4, 5, 6, 7, 9, 11] [] (by decide +kernel)
theorem fa_tk13 (p0 p1 p2 p3 : Addr × Obj) (B4 B5 : Led) (p6 p7 : Addr × Obj) (B8 : Led) (p9 p10 p11 : Addr × Obj) (B12 : Led) : TakeAll (p0 :: (p1 :: (p2 :: (p3 :: (B4 ++ (B5 ++ (p6 :: (p7 :: (B8 ++ (p9 :: (p10 :: (p11 :: (B12))))))))))))) (p0 :: (p1 :: (p2 :: (p3 :: (B4 ++ (B5 ++ (p6 :: (p7 :: (B8 ++ (p9 :: (p10 :: (p11 :: (B12))))))))))))) ([]) := take_blocks [[p0], [p1], [p2], [p3], B4, B5, [p6], [p7], B8, [p9], [p10], [p11], B12] 13 rfl [0, 1, 2, 3, 4, 5, 6, 7, 8, 9, 10, 11, 12] [] (by decide +kernel)
theorem fa_tk14 (B0 : Led) (p1 p2 p3 p4 : Addr × Obj) (B5 B6 : Led) (p7 p8 : Addr × Obj) (B9 : Led) (p10 p11 p12 : Addr × Obj) (B13 : Led) : TakeAll (B0 ++ (p1 :: (p2 :: (p3 :: (p4 :: (B5 ++ (B6 ++ (p7 :: (p8 :: (B9 ++ (p10 :: (p11 :: (p12 :: (B13)))))))))))))) (p3 :: (p4 :: (B0 ++ (p1 :: (p2 :: (B5 ++ (B6 ++ (p7 :: (p8 :: (B9 ++ (p10 :: (p11 :: (p12 :: (B13)))))))))))))) ([]) := take_blocks [B0, [p1], [p2], [p3], [p4], B5, B6, [p7], [p8], B9, [p10], [p11], [p12], B13] 14 rfl [3, 4, 0, 1, 2, 5, 6, 7, 8, 9, 10, 11, 12, 13] [] (by decide +kernel)
theorem fa_tk15 (B0 : Led) (p1 p2 : Addr × Obj) (B3 : Led) (p4 p5 : Addr × Obj) (B6 B7 : Led) (p8 p9 : Addr × Obj) (B10 : Led) (p11 p12 p13 : Addr × Obj) (B14 : Led) : TakeAll (B0 ++ (p1 :: (p2 :: (B3 ++ (p4 :: (p5 :: (B6 ++ (B7 ++ (p8 :: (p9 :: (B10 ++ (p11 :: (p12 :: (p13 :: (B14))))))))))))))) (B3 ++ (B10 ++ (B0 ++ (p4 :: (p5 :: (p1 :: (p2 :: (B6 ++ (B7 ++ (p8 :: (p9 :: (p11 :: (p12 :: (p13 :: (B14))))))))))))))) ([]) := take_blocks [B0, [p1], [p2], B3, [p4], [p5], B6, B7, [p8], [p9], B10, [p11], [p12], [p13], B14] 15 rfl [3, 10, 0, 4, 5, 1, 2, 6, 7, 8, 9, 11, 12, 13, 14] [] (by decide +kernel)
theorem fa_tk16 (B0 B1 B2 : Led) (p3 p4 p5 p6 : Addr × Obj) (B7 B8 : Led) (p9 p10 p11 p12 p13 : Addr × Obj) (B14 : Led) : TakeAll (B0 ++ (B1 ++ (B2 ++ (p3 :: (p4 :: (p5 :: (p6 :: (B7 ++ (B8 ++ (p9 :: (p10 :: (p11 :: (p12 :: (p13 :: (B14))))))))))))))) (p3 :: (p4 :: (p5 :: (p6 :: (B0 ++ (B1 ++ (B2 ++ (B7 ++ (B8 ++ (p9 :: (p10 :: (p11 :: (p12 :: (p13 :: (B14))))))))))))))) ([]) := take_blocks [B0, B1, B2, [p3], [p4], [p5], [p6], B7, B8, [p9], [p10], [p11], [p12], [p13], B14] 15 rfl [3, 4, 5, 6, 0, 1, 2, 7, 8, 9, 10, 11, 12, 13, 14] [] (by decide +kernel)
theorem fa_tk17 (p0 p1 p2 p3 p4 : Addr × Obj) (B5 B6 B7 B8 B9 B10 : Led) (p11 p12 p13 p14 p15 : Addr × Obj) (B16 : Led) : TakeAll (p0 :: (p1 :: (p2 :: (p3 :: (p4 :: (B5 ++ (B6 ++ (B7 ++ (B8 ++ (B9 ++ (B10 ++ (p11 :: (p12 :: (p13 :: (p14 :: (p15 :: (B16))))))))))))))))) (B6 ++ (B8 ++ (p0 :: (B5 ++ (p1 :: (p2 :: (p3 :: (p4 :: (B7 ++ (B9 ++ (B10 ++ (p11 :: (p12 :: (p13 :: (p14 :: (p15 :: (B16))))))))))))))))) ([]) := take_blocks [[p0], [p1], [p2], [p3], [p4], B5, B6, B7, B8, B9, B10, [p11], [p12], [p13], [p14], [p15], B16] 17 rfl [6, 8, 0, 5, 1, 2, 3, 4, 7, 9, 10, 11, 12, 13, 14, 15, 16] [] (by decide +kernel)
theorem fa_tk18 (B0 B1 : Led) (p2 : Addr × Obj) (B3 : Led) (p4 p5 p6 p7 : Addr × Obj) (B8 B9 B10 : Led) (p11 p12 p13 p14 p15 : Addr × Obj) (B16 : Led) : TakeAll (B0 ++ (B1 ++ (p2 :: (B3 ++ (p4 :: (p5 :: (p6 :: (p7 :: (B8 ++ (B9 ++ (B10 ++ (p11 :: (p12 :: (p13 :: (p14 :: (p15 :: (B16))))))))))))))))) (B9 ++ (p5 :: (B10 ++ (B0 ++ (B1 ++ (p2 :: (B3 ++ (p4 :: (p6 :: (p7 :: (B8 ++ (p11 :: (p12 :: (p13 :: (p14 :: (p15 :: (B16))))))))))))))))) ([]) := take_blocks [B0, B1, [p2], B3, [p4], [p5], [p6], [p7], B8, B9, B10, [p11], [p12], [p13], [p14], [p15], B16] 17 rfl [9, 5, 10, 0, 1, 2, 3, 4, 6, 7, 8, 11, 12, 13, 14, 15, 16] [] (by decide +kernel)
theorem fa_tk19 (B0 B1 B2 : Led) (p3 : Addr × Obj) (B4 : Led) (p5 p6 p7 : Addr × Obj) (B8 : Led) (p9 p10 p11 p12 p13 : Addr × Obj) (B14 : Led) : TakeAll (B0 ++ (B1 ++ (B2 ++ (p3 :: (B4 ++ (p5 :: (p6 :: (p7 :: (B8 ++ (p9 :: (p10 :: (p11 :: (p12 :: (p13 :: (B14))))))))))))))) (p13 :: (p11 :: (p10 :: (p5 :: (p6 :: (p12 :: (p9 :: (B0 ++ (B14))))))))) (B1 ++ (B2 ++ (p3 :: (B4 ++ (p7 :: (B8)))))) := take_blocks [B0, B1, B2, [p3], B4, [p5], [p6], [p7], B8, [p9], [p10], [p11], [p12], [p13], B14] 15 rfl [13, 11, 10, 5, 6, 12, 9, 0, 14] [1, 2, 3, 4, 7, 8] (by decide +kernel)
noncomputable section
namespace E_turn_a
def P (w : World) (g : Heap) (s : Shared) (p : Program) (loose : List Str) (mean : EoV) (mg mb : SoV) (L' : Addr) (Q : FsP) (E : VsP) (m : SoV) (I : Addr) (oI : Obj) (i : Nat) (t_ : Tok) (D Dl : Addr) (t tu wd hi nr ny : Nat) (ys : List Value) (al : List Addr) (rs : List (Addr × List Value × Nat)) (col : Nat → List Nat) (h0 h1 h2 h3 : Int) (u1 u4 u5 u6 : Tok) (x10 x11 : Option Value) (U : Led) (c3 c4 c10 c11 : Obj) : Prop := (4 ≤ t) → (t ≤ 6) → (wd ≤ 6) → (hi ≤ 6) → (tu ≤ 11) → (IntsAre ys [h0, h1, h2, h3]) → (rs.map (·.1) = al) → (al.length = hi) → (∀ i < hi, (col i).length = t) → (∀ i < hi, ∀ d ∈ col i, d ≤ wd) → (RunsOk rs col) → (∀ i < (hi + 1) / 2, equalW (wsOf (runsL (intsN ((col i).map (wd - ·))))) (wsOf (runsL (intsN (col (hi - 1 - i))))) = true) → (∀ i < (hi + 1) / 2, equalW (wsOf (runsL (intsN ((col i).map (wd - ·))) ++ [32, 32])) (wsOf (runsL (intsN (col (hi - 1 - i))))) = false) → (∀ i < (hi + 1) / 2, ∀ q < t - 1, equalW (wsOf (runsL (intsN (col (hi - 1 - i))))) (wsOf (runsL (intsN (movedN (col (hi - 1 - i)) q)))) = decide (0 ∈ ((col (hi - 1 - i)).drop q).take 2)) → (∀ i < (hi + 1) / 2, ∀ q < t - 1, witW (wsOf (runsL (intsN ((col i).map (wd - ·))) ++ [32, 32])) (wsOf (runsL (intsN (movedN (col (hi - 1 - i)) q)))) = diffs (maxL (movedN (col (hi - 1 - i)) q) + 1) (colT (col (hi - 1 - i)) (movedN (col (hi - 1 - i)) q))) → (c3.data = .cell (some (.int (wd : Int) u5))) → (c4.data = .cell (some (.int (hi : Int) u6))) → (c10.data = .cell x10) → (c11.data = .cell x11) → ((hd.heap_39 w.params).In g) → (Top p loose mean mg mb g) → (i < (hi + 1) / 2) → (i = tu % ((hi + 1) / 2)) → (Fr g L' s.heap (over ((Str.ofString "i", .int (0 + (i : Int) * 1) t_) :: [(Str.ofString "runs", .ref Dl), (Str.ofString "turn", .int (tu : Int) u4), (Str.ofString "total", .int (t : Int) u1), (Str.ofString "heaps", .ref D)]) m)) → (News g L' s.heap ((I, oI) :: ((L' + 3, c3) :: ((L' + 4, c4) :: ((L' + 10, c10) :: ((L' + 11, c11) :: ((Dl, W.listOf (al.map Value.ref).toArray nr) :: ((D, W.listOf ys.toArray ny) :: (runsT rs ++ ((U))))))))))) → (Apart (((I, oI) :: ((L' + 3, c3) :: ((L' + 4, c4) :: ((L' + 10, c10) :: ((L' + 11, c11) :: ((Dl, W.listOf (al.map Value.ref).toArray nr) :: ((D, W.listOf ys.toArray ny) :: (runsT rs ++ ((U)))))))))).map (·.1))) → wpAny (model Challenge.rw_uc0019_01.row.prog w) ((Lv 850).deeper (lawEnv L')) (execs (lawRun 0 1 (blockOf 13 lawBody) (lawRun 1 1 (blockOf 13 lawBody) (lawRun 2 1 (blockOf 13 lawBody) (lawRun 3 1 (blockOf 13 lawBody) (lawRun 4 1 (blockOf 13 lawBody) (lawRun 5 1 (blockOf 13 lawBody) (lawRun 6 1 (blockOf 13 lawBody) (lawRun 7 1 (blockOf 13 lawBody) (lawRun 8 1 (blockOf 13 lawBody) (lawRun 9 1 (blockOf 13 lawBody) (lawRun 10 1 (blockOf 13 lawBody) (lawRun 11 1 (blockOf 13 lawBody) [])))))))))))) (lawEnv L')) (TurnE g L' I oI (JF L' D Dl t tu nr ny ys al rs u1 u4 c3 c4 U (i + 1)) s Q) E s
@[irreducible] def ζ := upick (by walk_at "m ne") ((ucat un32 (ucat un8 (ucat un2 un1))) P)
@[irreducible] def w := ζ.1.1.1.1.1.1
@[irreducible] def g := ζ.1.1.1.1.1.2
@[irreducible] def s := ζ.1.1.1.1.2.1
@[irreducible] def L' := ζ.1.1.2.1.1.1
@[irreducible] def Q := ζ.1.1.2.1.1.2
@[irreducible] def E := ζ.1.1.2.1.2.1
@[irreducible] def m := ζ.1.1.2.1.2.2
@[irreducible] def I := ζ.1.1.2.2.1.1
@[irreducible] def oI := ζ.1.1.2.2.1.2
@[irreducible] def i := ζ.1.1.2.2.2.1
@[irreducible] def t_ := ζ.1.1.2.2.2.2
@[irreducible] def D := ζ.1.2.1.1.1.1
@[irreducible] def Dl := ζ.1.2.1.1.1.2
@[irreducible] def t := ζ.1.2.1.1.2.1
@[irreducible] def tu := ζ.1.2.1.1.2.2
@[irreducible] def wd := ζ.1.2.1.2.1.1
@[irreducible] def hi := ζ.1.2.1.2.1.2
@[irreducible] def nr := ζ.1.2.1.2.2.1
@[irreducible] def ny := ζ.1.2.1.2.2.2
@[irreducible] def ys := ζ.1.2.2.1.1.1
@[irreducible] def al := ζ.1.2.2.1.1.2
@[irreducible] def rs := ζ.1.2.2.1.2.1
@[irreducible] def col := ζ.1.2.2.1.2.2
@[irreducible] def u1 := ζ.2.1.1.1.1
@[irreducible] def u4 := ζ.2.1.1.1.2
@[irreducible] def U := ζ.2.1.2.2.1
@[irreducible] def c3 := ζ.2.1.2.2.2
@[irreducible] def c4 := ζ.2.2.1.1
@[irreducible] def c10 := ζ.2.2.1.2
@[irreducible] def c11 := ζ.2.2.2
theorem core : P w g s ζ.1.1.1.1.2.2 ζ.1.1.1.2.1.1 ζ.1.1.1.2.1.2 ζ.1.1.1.2.2.1 ζ.1.1.1.2.2.2 L' Q E m I oI i t_ D Dl t tu wd hi nr ny ys al rs col ζ.1.2.2.2.1.1 ζ.1.2.2.2.1.2 ζ.1.2.2.2.2.1 ζ.1.2.2.2.2.2 u1 u4 ζ.2.1.1.2.1 ζ.2.1.1.2.2 ζ.2.1.2.1.1 ζ.2.1.2.1.2 U c3 c4 c10 c11 := by
  intro ht4 ht6 hw hh htu hy hal hall hcl hcb hro hG hH1 hH2 hH3 d3 d4 d10 d11 X Tp hi2 hit F₁ N₁ nd₁
  have hih : i < hi := by lia
  have hih2 : hi - 1 - i < hi := by lia
  have hmb : ∀ d ∈ (col (hi - 1 - i)), d ≤ 6 := fun d hd => Nat.le_trans (hcb _ hih2 d hd) hw
  have hmt := hcl _ hih2
  have hml : (col (hi - 1 - i)).length ≤ 6 := by lia
  have hrs : rs.length = hi := by rw [← hall, ← hal, List.length_map]
  obtain ⟨A1, p1, B1, hrs1, hA1, hp1⟩ := runs_cut (rs := rs) (i := hi - 1 - i) (by lia)
  obtain ⟨A2, p2, B2, hrs2, hA2, hp2⟩ := runs_cut (rs := rs) (i := i) (by lia)
  have hv1 := hro _ _ hp1
  have hv2 := hro _ _ hp2
  have hrl : (al.map Value.ref)[hi - 1 - i]? = some (.ref p1.1) := by rw [← hal, List.getElem?_map, List.getElem?_map, hp1]; rfl
  have hrl2 : (al.map Value.ref)[i]? = some (.ref p2.1) := by rw [← hal, List.getElem?_map, List.getElem?_map, hp2]; rfl
  have hll2 : (col i).length ≤ 6 := by rw [hcl i hih]; exact ht6
  have hlb2 := hcb i hih
  have hla198 : (runsL (intsN ((col i).map (wd - ·)))).length ≤ 198 := lacksN_len hll2 hw
  have hla200 : (runsL (intsN ((col i).map (wd - ·)))).length ≤ 200 := by lia
  have hmi200 : (runsL (intsN (col (hi - 1 - i)))).length ≤ 200 := runsN_len hml hmb
  have sb_0 := Stt.of (V := [(Str.ofString "i", .int (0 + (i : Int) * 1) t_), (Str.ofString "runs", .ref Dl), (Str.ofString "turn", .int (tu : Int) u4), (Str.ofString "total", .int (t : Int) u1), (Str.ofString "heaps", .ref D)]) F₁ N₁ nd₁
  refine useF [Str.ofString "i", Str.ofString "runs"] [(Str.ofString "turn", .int (tu : Int) u4), (Str.ofString "total", .int (t : Int) u1), (Str.ofString "heaps", .ref D)] (fun m => seg_f0 (m := m) (U := (I, oI) :: ((L' + 3, c3) :: ((L' + 11, c11) :: ((D, W.listOf ys.toArray ny) :: (runsT rs ++ ((U))))))) (by lia : (0 + (i : Int) * 1) = (i : Int)) (by lia) hh hih hrl d4 d10) X Tp sb_0 (fun _ => ⟨rfl, rfl, trivial⟩) (fa_tk1 (I, oI) (L' + 3, c3) (L' + 4, c4) (L' + 10, c10) (L' + 11, c11) (Dl, W.listOf (al.map Value.ref).toArray nr) (D, W.listOf ys.toArray ny) (runsT rs) (U)) (by rfl) ?_
  intro c10b d10b h_1 tk_1 st_1
  show wpAny _ _ _ _ _ { s with heap := h_1, toks := tk_1 }
  obtain ⟨⟨m_1, F_1⟩, N_1, nd_1⟩ := st_1
  obtain ⟨N_2, nd_2⟩ := take2 N_1 nd_1 (fa_tk2 (L' + 4, c4) (Dl, W.listOf (al.map Value.ref).toArray nr) (L' + 10, c10b) (I, oI) (L' + 3, c3) (L' + 11, c11) (D, W.listOf ys.toArray ny) (runsT rs) (U))
  rw [hrs1, runsT_cut] at N_2 nd_2
  have sb_2 := Stt.of (V := [(Str.ofString "i", .int (0 + (i : Int) * 1) t_), (Str.ofString "runs", .ref Dl), (Str.ofString "turn", .int (tu : Int) u4), (Str.ofString "total", .int (t : Int) u1), (Str.ofString "heaps", .ref D)]) F_1 N_2 nd_2
  refine useF [Str.ofString "lead"] [(Str.ofString "i", .int (0 + (i : Int) * 1) t_), (Str.ofString "runs", .ref Dl), (Str.ofString "turn", .int (tu : Int) u4), (Str.ofString "total", .int (t : Int) u1), (Str.ofString "heaps", .ref D)] (fun m => seg_f1 (m := m) (U := runsT A1 ++ (runsT B1 ++ ((L' + 4, c4) :: ((Dl, W.listOf (al.map Value.ref).toArray nr) :: ((I, oI) :: ((L' + 3, c3) :: ((L' + 11, c11) :: ((D, W.listOf ys.toArray ny) :: ((U)))))))))) hml hmb hv1 d10b) X Tp sb_2 (fun _ => trivial) (fa_tk3 (runsT A1) (p1.1, W.listOf p1.2.1.toArray p1.2.2) (runsT B1) (L' + 4, c4) (Dl, W.listOf (al.map Value.ref).toArray nr) (L' + 10, c10b) (I, oI) (L' + 3, c3) (L' + 11, c11) (D, W.listOf ys.toArray ny) (U)) (by rfl) ?_
  intro xl dl hdl h_3 tk_3 st_3
  show wpAny _ _ _ _ _ { s with heap := h_3, toks := tk_3 }
  obtain ⟨⟨m_3, F_3⟩, N_3, nd_3⟩ := st_3
  obtain ⟨N_4, nd_4⟩ := take2 N_3 nd_3 (fa_tk4 (wsT w xl dl) (L' + 10, c10b) (p1.1, W.listOf p1.2.1.toArray p1.2.2) (runsT A1) (runsT B1) (L' + 4, c4) (Dl, W.listOf (al.map Value.ref).toArray nr) (I, oI) (L' + 3, c3) (L' + 11, c11) (D, W.listOf ys.toArray ny) (U))
  rw [← runsT_cut, ← hrs1] at N_4 nd_4
  obtain ⟨N_5, nd_5⟩ := take2 N_4 nd_4 (fa_tk5 (runsT rs) (wsT w xl dl) (L' + 10, c10b) (L' + 4, c4) (Dl, W.listOf (al.map Value.ref).toArray nr) (I, oI) (L' + 3, c3) (L' + 11, c11) (D, W.listOf ys.toArray ny) (U))
  rw [hrs2, runsT_cut] at N_5 nd_5
  have sb_5 := Stt.of (V := [(Str.ofString "lead", .ref xl), (Str.ofString "i", .int (0 + (i : Int) * 1) t_), (Str.ofString "runs", .ref Dl), (Str.ofString "turn", .int (tu : Int) u4), (Str.ofString "total", .int (t : Int) u1), (Str.ofString "heaps", .ref D)]) F_3 N_5 nd_5
  refine useF [Str.ofString "lacks", Str.ofString "i", Str.ofString "runs"] [(Str.ofString "lead", .ref xl), (Str.ofString "turn", .int (tu : Int) u4), (Str.ofString "total", .int (t : Int) u1), (Str.ofString "heaps", .ref D)] (fun m => seg_f2 (m := m) (U := runsT A2 ++ (runsT B2 ++ (wsT w xl dl ++ ((L' + 10, c10b) :: ((L' + 4, c4) :: ((I, oI) :: ((L' + 11, c11) :: ((D, W.listOf ys.toArray ny) :: ((U)))))))))) (by lia : (0 + (i : Int) * 1) = (i : Int)) (by lia) hw hrl2 hll2 hlb2 hv2 d3) X Tp sb_5 (fun _ => ⟨rfl, rfl, trivial⟩) (fa_tk6 (runsT A2) (p2.1, W.listOf p2.2.1.toArray p2.2.2) (runsT B2) (wsT w xl dl) (L' + 10, c10b) (L' + 4, c4) (Dl, W.listOf (al.map Value.ref).toArray nr) (I, oI) (L' + 3, c3) (L' + 11, c11) (D, W.listOf ys.toArray ny) (U)) (by rfl) ?_
  intro tl h_6 tk_6 st_6
  show wpAny _ _ _ _ _ { s with heap := h_6, toks := tk_6 }
  obtain ⟨⟨m_6, F_6⟩, N_6, nd_6⟩ := st_6
  obtain ⟨N_7, nd_7⟩ := take2 N_6 nd_6 (fa_tk7 (L' + 3, c3) (Dl, W.listOf (al.map Value.ref).toArray nr) (p2.1, W.listOf p2.2.1.toArray p2.2.2) (runsT A2) (runsT B2) (wsT w xl dl) (L' + 10, c10b) (L' + 4, c4) (I, oI) (L' + 11, c11) (D, W.listOf ys.toArray ny) (U))
  rw [← runsT_cut, ← hrs2] at N_7 nd_7
  have sb_7 := Stt.of (V := [(Str.ofString "lacks", .str (Tx (runsL (intsN ((col i).map (wd - ·))))) tl), (Str.ofString "i", .int (0 + (i : Int) * 1) t_), (Str.ofString "runs", .ref Dl), (Str.ofString "lead", .ref xl), (Str.ofString "turn", .int (tu : Int) u4), (Str.ofString "total", .int (t : Int) u1), (Str.ofString "heaps", .ref D)]) F_6 N_7 nd_7
  refine useF [Str.ofString "lacks", Str.ofString "lead"] [(Str.ofString "i", .int (0 + (i : Int) * 1) t_), (Str.ofString "runs", .ref Dl), (Str.ofString "turn", .int (tu : Int) u4), (Str.ofString "total", .int (t : Int) u1), (Str.ofString "heaps", .ref D)] (fun m => seg_f3 (m := m) (U := runsT rs ++ ((L' + 3, c3) :: ((Dl, W.listOf (al.map Value.ref).toArray nr) :: ((L' + 10, c10b) :: ((L' + 4, c4) :: ((I, oI) :: ((L' + 11, c11) :: ((D, W.listOf ys.toArray ny) :: ((U)))))))))) hdl (runs_lt _) hla200 hmi200 (hG i hi2)) X Tp sb_7 (fun _ => ⟨rfl, rfl, trivial⟩) (fa_tk8 (runsT rs) (L' + 3, c3) (Dl, W.listOf (al.map Value.ref).toArray nr) (wsT w xl dl) (L' + 10, c10b) (L' + 4, c4) (I, oI) (L' + 11, c11) (D, W.listOf ys.toArray ny) (U)) (by rfl) ?_
  intro h_8 tk_8 st_8
  show wpAny _ _ _ _ _ { s with heap := h_8, toks := tk_8 }
  refine useF [Str.ofString "i", Str.ofString "turn"] [(Str.ofString "lacks", .str (Tx (runsL (intsN ((col i).map (wd - ·))))) tl), (Str.ofString "lead", .ref xl), (Str.ofString "runs", .ref Dl), (Str.ofString "total", .int (t : Int) u1), (Str.ofString "heaps", .ref D)] (fun m => seg_f4a (m := m) (U := wsT w xl dl ++ (runsT rs ++ ((L' + 3, c3) :: ((Dl, W.listOf (al.map Value.ref).toArray nr) :: ((L' + 10, c10b) :: ((I, oI) :: ((L' + 11, c11) :: ((D, W.listOf ys.toArray ny) :: ((U)))))))))) (by lia : (0 + (i : Int) * 1) = (i : Int)) (by lia) hh hi2 htu d4 hit) X Tp st_8 (fun _ => ⟨rfl, rfl, trivial⟩) (fa_tk9 (wsT w xl dl) (runsT rs) (L' + 3, c3) (Dl, W.listOf (al.map Value.ref).toArray nr) (L' + 10, c10b) (L' + 4, c4) (I, oI) (L' + 11, c11) (D, W.listOf ys.toArray ny) (U)) (by rfl) ?_
  intro h_9 tk_9 st_9
  show wpAny _ _ _ _ _ { s with heap := h_9, toks := tk_9 }
  refine useF [Str.ofString "place", Str.ofString "heaps", Str.ofString "total"] [(Str.ofString "i", .int (0 + (i : Int) * 1) t_), (Str.ofString "turn", .int (tu : Int) u4), (Str.ofString "lacks", .str (Tx (runsL (intsN ((col i).map (wd - ·))))) tl), (Str.ofString "lead", .ref xl), (Str.ofString "runs", .ref Dl)] (fun m => seg_f5 (m := m) (U := (L' + 4, c4) :: (wsT w xl dl ++ (runsT rs ++ ((L' + 3, c3) :: ((Dl, W.listOf (al.map Value.ref).toArray nr) :: ((L' + 10, c10b) :: ((I, oI) :: ((L' + 11, c11) :: ((U)))))))))) hy ht4 ht6) X Tp st_9 (fun _ => ⟨rfl, rfl, trivial⟩) (fa_tk10 (L' + 4, c4) (wsT w xl dl) (runsT rs) (L' + 3, c3) (Dl, W.listOf (al.map Value.ref).toArray nr) (L' + 10, c10b) (I, oI) (L' + 11, c11) (D, W.listOf ys.toArray ny) (U)) (by rfl) ?_
  intro q up hq h_10 tk_10 st_10
  show wpAny _ _ _ _ _ { s with heap := h_10, toks := tk_10 }
  obtain ⟨⟨m_10, F_10⟩, N_10, nd_10⟩ := st_10
  obtain ⟨N_11, nd_11⟩ := take2 N_10 nd_10 (fa_tk11 (D, W.listOf ys.toArray ny) (L' + 4, c4) (wsT w xl dl) (runsT rs) (L' + 3, c3) (Dl, W.listOf (al.map Value.ref).toArray nr) (L' + 10, c10b) (I, oI) (L' + 11, c11) (U))
  rw [hrs1, runsT_cut] at N_11 nd_11
  have sb_11 := Stt.of (V := [(Str.ofString "place", .int (q : Int) up), (Str.ofString "heaps", .ref D), (Str.ofString "total", .int (t : Int) u1), (Str.ofString "i", .int (0 + (i : Int) * 1) t_), (Str.ofString "turn", .int (tu : Int) u4), (Str.ofString "lacks", .str (Tx (runsL (intsN ((col i).map (wd - ·))))) tl), (Str.ofString "lead", .ref xl), (Str.ofString "runs", .ref Dl)]) F_10 N_11 nd_11
  refine useF [Str.ofString "place"] [(Str.ofString "heaps", .ref D), (Str.ofString "total", .int (t : Int) u1), (Str.ofString "i", .int (0 + (i : Int) * 1) t_), (Str.ofString "turn", .int (tu : Int) u4), (Str.ofString "lacks", .str (Tx (runsL (intsN ((col i).map (wd - ·))))) tl), (Str.ofString "lead", .ref xl), (Str.ofString "runs", .ref Dl)] (fun m => seg_f6 (m := m) (U := runsT A1 ++ (runsT B1 ++ ((D, W.listOf ys.toArray ny) :: ((L' + 4, c4) :: (wsT w xl dl ++ ((L' + 3, c3) :: ((Dl, W.listOf (al.map Value.ref).toArray nr) :: ((I, oI) :: ((U)))))))))) hmt ht6 hq hv1 d10b d11) X Tp sb_11 (fun _ => ⟨rfl, trivial⟩) (fa_tk12 (runsT A1) (p1.1, W.listOf p1.2.1.toArray p1.2.2) (runsT B1) (D, W.listOf ys.toArray ny) (L' + 4, c4) (wsT w xl dl) (L' + 3, c3) (Dl, W.listOf (al.map Value.ref).toArray nr) (L' + 10, c10b) (I, oI) (L' + 11, c11) (U)) (by rfl) ?_
  intro Dm mv c11b d11b hmv h_12 tk_12 st_12
  show wpAny _ _ _ _ _ { s with heap := h_12, toks := tk_12 }
  refine useF [Str.ofString "longer", Str.ofString "lacks"] [(Str.ofString "place", .int (q : Int) up), (Str.ofString "heaps", .ref D), (Str.ofString "total", .int (t : Int) u1), (Str.ofString "i", .int (0 + (i : Int) * 1) t_), (Str.ofString "turn", .int (tu : Int) u4), (Str.ofString "lead", .ref xl), (Str.ofString "runs", .ref Dl)] (fun m => seg_f7 (m := m) (U := (L' + 10, c10b) :: ((p1.1, W.listOf p1.2.1.toArray p1.2.2) :: ((L' + 11, c11b) :: ((Dm, W.listOf mv.toArray 0) :: (runsT A1 ++ (runsT B1 ++ ((D, W.listOf ys.toArray ny) :: ((L' + 4, c4) :: (wsT w xl dl ++ ((L' + 3, c3) :: ((Dl, W.listOf (al.map Value.ref).toArray nr) :: ((I, oI) :: ((U)))))))))))))) (lacks_lt _) (lacks_len hla198) hla198) X Tp st_12 (fun _ => ⟨rfl, trivial⟩) (fa_tk13 (L' + 10, c10b) (p1.1, W.listOf p1.2.1.toArray p1.2.2) (L' + 11, c11b) (Dm, W.listOf mv.toArray 0) (runsT A1) (runsT B1) (D, W.listOf ys.toArray ny) (L' + 4, c4) (wsT w xl dl) (L' + 3, c3) (Dl, W.listOf (al.map Value.ref).toArray nr) (I, oI) (U)) (by rfl) ?_
  intro xg dg hdg h_13 tk_13 st_13
  show wpAny _ _ _ _ _ { s with heap := h_13, toks := tk_13 }
  refine useF [Str.ofString "other"] [(Str.ofString "longer", .ref xg), (Str.ofString "lacks", .str (Tx (runsL (intsN ((col i).map (wd - ·))))) tl), (Str.ofString "place", .int (q : Int) up), (Str.ofString "heaps", .ref D), (Str.ofString "total", .int (t : Int) u1), (Str.ofString "i", .int (0 + (i : Int) * 1) t_), (Str.ofString "turn", .int (tu : Int) u4), (Str.ofString "lead", .ref xl), (Str.ofString "runs", .ref Dl)] (fun m => seg_f8 (m := m) (U := wsT w xg dg ++ ((L' + 10, c10b) :: ((p1.1, W.listOf p1.2.1.toArray p1.2.2) :: (runsT A1 ++ (runsT B1 ++ ((D, W.listOf ys.toArray ny) :: ((L' + 4, c4) :: (wsT w xl dl ++ ((L' + 3, c3) :: ((Dl, W.listOf (al.map Value.ref).toArray nr) :: ((I, oI) :: ((U))))))))))))) (moved_len hmt ht6 hq) (moved_le hmb) hmv d11b) X Tp st_13 (fun _ => trivial) (fa_tk14 (wsT w xg dg) (L' + 10, c10b) (p1.1, W.listOf p1.2.1.toArray p1.2.2) (L' + 11, c11b) (Dm, W.listOf mv.toArray 0) (runsT A1) (runsT B1) (D, W.listOf ys.toArray ny) (L' + 4, c4) (wsT w xl dl) (L' + 3, c3) (Dl, W.listOf (al.map Value.ref).toArray nr) (I, oI) (U)) (by rfl) ?_
  intro xo dz hdz h_14 tk_14 st_14
  show wpAny _ _ _ _ _ { s with heap := h_14, toks := tk_14 }
  refine useF [Str.ofString "longer", Str.ofString "lead", Str.ofString "other", Str.ofString "place"] [(Str.ofString "lacks", .str (Tx (runsL (intsN ((col i).map (wd - ·))))) tl), (Str.ofString "heaps", .ref D), (Str.ofString "total", .int (t : Int) u1), (Str.ofString "i", .int (0 + (i : Int) * 1) t_), (Str.ofString "turn", .int (tu : Int) u4), (Str.ofString "runs", .ref Dl)] (fun m => seg_f9 (m := m) (U := (L' + 11, c11b) :: ((Dm, W.listOf mv.toArray 0) :: (runsT A1 ++ (runsT B1 ++ ((D, W.listOf ys.toArray ny) :: ((L' + 4, c4) :: ((L' + 3, c3) :: ((Dl, W.listOf (al.map Value.ref).toArray nr) :: ((I, oI) :: ((U))))))))))) hdg hdl hdz (lacks_len hla198) hmi200 (runsN_lenB (moved_len hmt ht6 hq) (moved_le hmb)) hv1 hml (by lia) (hH1 i hi2) (hH2 i hi2 q hq) d10b) X Tp st_14 (fun _ => ⟨rfl, rfl, rfl, rfl, trivial⟩) (fa_tk15 (wsT w xo dz) (L' + 11, c11b) (Dm, W.listOf mv.toArray 0) (wsT w xg dg) (L' + 10, c10b) (p1.1, W.listOf p1.2.1.toArray p1.2.2) (runsT A1) (runsT B1) (D, W.listOf ys.toArray ny) (L' + 4, c4) (wsT w xl dl) (L' + 3, c3) (Dl, W.listOf (al.map Value.ref).toArray nr) (I, oI) (U)) (by rfl) ?_
  intro h_15 tk_15 st_15
  show wpAny _ _ _ _ _ { s with heap := h_15, toks := tk_15 }
  refine useF [Str.ofString "levels"] [(Str.ofString "longer", .ref xg), (Str.ofString "lead", .ref xl), (Str.ofString "other", .ref xo), (Str.ofString "place", .int (q : Int) up), (Str.ofString "lacks", .str (Tx (runsL (intsN ((col i).map (wd - ·))))) tl), (Str.ofString "heaps", .ref D), (Str.ofString "total", .int (t : Int) u1), (Str.ofString "i", .int (0 + (i : Int) * 1) t_), (Str.ofString "turn", .int (tu : Int) u4), (Str.ofString "runs", .ref Dl)] (fun m => seg_f10 (m := m) (U := wsT w xg dg ++ (wsT w xl dl ++ (wsT w xo dz ++ (runsT A1 ++ (runsT B1 ++ ((D, W.listOf ys.toArray ny) :: ((L' + 4, c4) :: ((L' + 3, c3) :: ((Dl, W.listOf (al.map Value.ref).toArray nr) :: ((I, oI) :: ((U)))))))))))) hml hmb hv1 (moved_len hmt ht6 hq) (moved_le hmb) hmv d10b d11b) X Tp st_15 (fun _ => trivial) (fa_tk16 (wsT w xg dg) (wsT w xl dl) (wsT w xo dz) (L' + 10, c10b) (p1.1, W.listOf p1.2.1.toArray p1.2.2) (L' + 11, c11b) (Dm, W.listOf mv.toArray 0) (runsT A1) (runsT B1) (D, W.listOf ys.toArray ny) (L' + 4, c4) (L' + 3, c3) (Dl, W.listOf (al.map Value.ref).toArray nr) (I, oI) (U)) (by rfl) ?_
  intro Dv lvs hlv h_16 tk_16 st_16
  show wpAny _ _ _ _ _ { s with heap := h_16, toks := tk_16 }
  refine useF [Str.ofString "longer", Str.ofString "other", Str.ofString "levels"] [(Str.ofString "lead", .ref xl), (Str.ofString "place", .int (q : Int) up), (Str.ofString "lacks", .str (Tx (runsL (intsN ((col i).map (wd - ·))))) tl), (Str.ofString "heaps", .ref D), (Str.ofString "total", .int (t : Int) u1), (Str.ofString "i", .int (0 + (i : Int) * 1) t_), (Str.ofString "turn", .int (tu : Int) u4), (Str.ofString "runs", .ref Dl)] (fun m => seg_f11 (m := m) (U := (L' + 10, c10b) :: ((p1.1, W.listOf p1.2.1.toArray p1.2.2) :: ((L' + 11, c11b) :: ((Dm, W.listOf mv.toArray 0) :: (wsT w xl dl ++ (runsT A1 ++ (runsT B1 ++ ((D, W.listOf ys.toArray ny) :: ((L' + 4, c4) :: ((L' + 3, c3) :: ((Dl, W.listOf (al.map Value.ref).toArray nr) :: ((I, oI) :: ((U)))))))))))))) hdg hdz (lacks_len hla198) (runsN_lenB (moved_len hmt ht6 hq) (moved_le hmb)) (by have := max_le (moved_le (q := q) hmb); lia) hlv (hH3 i hi2 q hq)) X Tp st_16 (fun _ => ⟨rfl, rfl, rfl, trivial⟩) (fa_tk17 (Dv, W.listOf (levV lvs).toArray (levV lvs).length) (L' + 10, c10b) (p1.1, W.listOf p1.2.1.toArray p1.2.2) (L' + 11, c11b) (Dm, W.listOf mv.toArray 0) (levT lvs) (wsT w xg dg) (wsT w xl dl) (wsT w xo dz) (runsT A1) (runsT B1) (D, W.listOf ys.toArray ny) (L' + 4, c4) (L' + 3, c3) (Dl, W.listOf (al.map Value.ref).toArray nr) (I, oI) (U)) (by rfl) ?_
  intro h_17 tk_17 st_17
  show wpAny _ _ _ _ _ { s with heap := h_17, toks := tk_17 }
  obtain ⟨⟨m_17, F_17⟩, N_17, nd_17⟩ := st_17
  obtain ⟨N_18, nd_18⟩ := take2 N_17 nd_17 (fa_tk18 (wsT w xg dg) (wsT w xo dz) (Dv, W.listOf (levV lvs).toArray (levV lvs).length) (levT lvs) (L' + 10, c10b) (p1.1, W.listOf p1.2.1.toArray p1.2.2) (L' + 11, c11b) (Dm, W.listOf mv.toArray 0) (wsT w xl dl) (runsT A1) (runsT B1) (D, W.listOf ys.toArray ny) (L' + 4, c4) (L' + 3, c3) (Dl, W.listOf (al.map Value.ref).toArray nr) (I, oI) (U))
  rw [← runsT_cut, ← hrs1] at N_18 nd_18
  obtain ⟨N_19, nd_19⟩ := take2 N_18 nd_18 (fa_tk19 (runsT rs) (wsT w xg dg) (wsT w xo dz) (Dv, W.listOf (levV lvs).toArray (levV lvs).length) (levT lvs) (L' + 10, c10b) (L' + 11, c11b) (Dm, W.listOf mv.toArray 0) (wsT w xl dl) (D, W.listOf ys.toArray ny) (L' + 4, c4) (L' + 3, c3) (Dl, W.listOf (al.map Value.ref).toArray nr) (I, oI) (U))
  refine wpAny_execs_nil ?_
  exact turn_next (rest := []) (J := JF L' D Dl t tu nr ny ys al rs u1 u4 c3 c4 U (i + 1)) F_17 N_19 nd_19 ([(Str.ofString "runs", .ref Dl), (Str.ofString "turn", .int (tu : Int) u4), (Str.ofString "total", .int (t : Int) u1), (Str.ofString "heaps", .ref D)]) ((L' + 3, c3) :: ((L' + 4, c4) :: ((L' + 10, c10b) :: ((L' + 11, c11b) :: ((Dl, W.listOf (al.map Value.ref).toArray nr) :: ((D, W.listOf ys.toArray ny) :: (runsT rs ++ ((U))))))))) ⟨c10b, c11b, _, _, d10b, d11b, rfl, rfl⟩ ⟨rfl, rfl, rfl, rfl, trivial⟩ TakeAll.whole
end E_turn_a
end
theorem turn_a : ∀ {w g s p loose mean mg mb L' Q E m I oI i t_ D Dl t tu wd hi nr ny ys al rs col h0 h1 h2 h3 u1 u4 u5 u6 x10 x11 U c3 c4 c10 c11}, E_turn_a.P w g s p loose mean mg mb L' Q E m I oI i t_ D Dl t tu wd hi nr ny ys al rs col h0 h1 h2 h3 u1 u4 u5 u6 x10 x11 U c3 c4 c10 c11 := fun {w g s p loose mean mg mb L' Q E m I oI i t_ D Dl t tu wd hi nr ny ys al rs col h0 h1 h2 h3 u1 u4 u5 u6 x10 x11 U c3 c4 c10 c11} => by with_unfolding_all exact pk (c := E_turn_a.ζ) rfl E_turn_a.core ((((((w, g), (s, p)), ((loose, mean), (mg, mb))), (((L', Q), (E, m)), ((I, oI), (i, t_)))), ((((D, Dl), (t, tu)), ((wd, hi), (nr, ny))), (((ys, al), (rs, col)), ((h0, h1), (h2, h3))))), ((((u1, u4), (u5, u6)), ((x10, x11), (U, c3))), ((c4, c10), c11)))
end
section
theorem fb_tk1 (p0 p1 p2 p3 p4 p5 p6 : Addr × Obj) (B7 B8 : Led) : TakeAll (p0 :: (p1 :: (p2 :: (p3 :: (p4 :: (p5 :: (p6 :: (B7 ++ (B8))))))))) (p2 :: (p5 :: (p3 :: (p0 :: (p1 :: (p4 :: (p6 :: (B7 ++ (B8))))))))) ([]) := take_blocks [[p0], [p1], [p2], [p3], [p4], [p5], [p6], B7, B8] 9 rfl [2, 5, 3, 0, 1, 4, 6, 7, 8] [] (by decide +kernel)
theorem fb_tk2 (p0 p1 p2 p3 p4 p5 p6 : Addr × Obj) (B7 B8 : Led) : TakeAll (p0 :: (p1 :: (p2 :: (p3 :: (p4 :: (p5 :: (p6 :: (B7 ++ (B8))))))))) (B7 ++ (p0 :: (p1 :: (p2 :: (p3 :: (p4 :: (p5 :: (p6 :: (B8))))))))) ([]) := take_blocks [[p0], [p1], [p2], [p3], [p4], [p5], [p6], B7, B8] 9 rfl [7, 0, 1, 2, 3, 4, 5, 6, 8] [] (by decide +kernel)
theorem fb_tk3 (B0 : Led) (p1 : Addr × Obj) (B2 : Led) (p3 p4 p5 p6 p7 p8 p9 : Addr × Obj) (B10 : Led) : TakeAll (B0 ++ (p1 :: (B2 ++ (p3 :: (p4 :: (p5 :: (p6 :: (p7 :: (p8 :: (p9 :: (B10))))))))))) (p5 :: (p1 :: (B0 ++ (B2 ++ (p3 :: (p4 :: (p6 :: (p7 :: (p8 :: (p9 :: (B10))))))))))) ([]) := take_blocks [B0, [p1], B2, [p3], [p4], [p5], [p6], [p7], [p8], [p9], B10] 11 rfl [5, 1, 0, 2, 3, 4, 6, 7, 8, 9, 10] [] (by decide +kernel)
theorem fb_tk4 (B0 : Led) (p1 p2 : Addr × Obj) (B3 B4 : Led) (p5 p6 p7 p8 p9 p10 : Addr × Obj) (B11 : Led) : TakeAll (B0 ++ (p1 :: (p2 :: (B3 ++ (B4 ++ (p5 :: (p6 :: (p7 :: (p8 :: (p9 :: (p10 :: (B11)))))))))))) (B3 ++ (p2 :: (B4 ++ (B0 ++ (p1 :: (p5 :: (p6 :: (p7 :: (p8 :: (p9 :: (p10 :: (B11)))))))))))) ([]) := take_blocks [B0, [p1], [p2], B3, B4, [p5], [p6], [p7], [p8], [p9], [p10], B11] 12 rfl [3, 2, 4, 0, 1, 5, 6, 7, 8, 9, 10, 11] [] (by decide +kernel)
theorem fb_tk5 (B0 B1 : Led) (p2 p3 p4 p5 p6 p7 p8 : Addr × Obj) (B9 : Led) : TakeAll (B0 ++ (B1 ++ (p2 :: (p3 :: (p4 :: (p5 :: (p6 :: (p7 :: (p8 :: (B9)))))))))) (B0 ++ (B1 ++ (p2 :: (p3 :: (p4 :: (p5 :: (p6 :: (p7 :: (p8 :: (B9)))))))))) ([]) := take_blocks [B0, B1, [p2], [p3], [p4], [p5], [p6], [p7], [p8], B9] 10 rfl [0, 1, 2, 3, 4, 5, 6, 7, 8, 9] [] (by decide +kernel)
theorem fb_tk6 (B0 : Led) (p1 : Addr × Obj) (B2 B3 : Led) (p4 p5 p6 p7 p8 p9 p10 : Addr × Obj) (B11 : Led) : TakeAll (B0 ++ (p1 :: (B2 ++ (B3 ++ (p4 :: (p5 :: (p6 :: (p7 :: (p8 :: (p9 :: (p10 :: (B11)))))))))))) (p8 :: (p6 :: (p1 :: (B0 ++ (B2 ++ (B3 ++ (p4 :: (p5 :: (p7 :: (p9 :: (p10 :: (B11)))))))))))) ([]) := take_blocks [B0, [p1], B2, B3, [p4], [p5], [p6], [p7], [p8], [p9], [p10], B11] 12 rfl [8, 6, 1, 0, 2, 3, 4, 5, 7, 9, 10, 11] [] (by decide +kernel)
theorem fb_tk7 (p0 p1 p2 : Addr × Obj) (B3 B4 B5 : Led) (p6 p7 p8 p9 p10 : Addr × Obj) (B11 : Led) : TakeAll (p0 :: (p1 :: (p2 :: (B3 ++ (B4 ++ (B5 ++ (p6 :: (p7 :: (p8 :: (p9 :: (p10 :: (B11)))))))))))) (B3 ++ (p2 :: (B4 ++ (p0 :: (p1 :: (B5 ++ (p6 :: (p7 :: (p8 :: (p9 :: (p10 :: (B11)))))))))))) ([]) := take_blocks [[p0], [p1], [p2], B3, B4, B5, [p6], [p7], [p8], [p9], [p10], B11] 12 rfl [3, 2, 4, 0, 1, 5, 6, 7, 8, 9, 10, 11] [] (by decide +kernel)
theorem fb_tk8 (B0 : Led) (p1 p2 : Addr × Obj) (B3 : Led) (p4 p5 p6 p7 p8 : Addr × Obj) (B9 : Led) : TakeAll (B0 ++ (p1 :: (p2 :: (B3 ++ (p4 :: (p5 :: (p6 :: (p7 :: (p8 :: (B9)))))))))) (B3 ++ (B0 ++ (p1 :: (p2 :: (p4 :: (p5 :: (p6 :: (p7 :: (p8 :: (B9)))))))))) ([]) := take_blocks [B0, [p1], [p2], B3, [p4], [p5], [p6], [p7], [p8], B9] 10 rfl [3, 0, 1, 2, 4, 5, 6, 7, 8, 9] [] (by decide +kernel)
theorem fb_tk9 (B0 B1 : Led) (p2 p3 p4 p5 p6 p7 p8 : Addr × Obj) (B9 : Led) : TakeAll (B0 ++ (B1 ++ (p2 :: (p3 :: (p4 :: (p5 :: (p6 :: (p7 :: (p8 :: (B9)))))))))) (p5 :: (B0 ++ (B1 ++ (p2 :: (p3 :: (p4 :: (p6 :: (p7 :: (p8 :: (B9)))))))))) ([]) := take_blocks [B0, B1, [p2], [p3], [p4], [p5], [p6], [p7], [p8], B9] 10 rfl [5, 0, 1, 2, 3, 4, 6, 7, 8, 9] [] (by decide +kernel)
theorem fb_tk10 (p0 : Addr × Obj) (B1 B2 : Led) (p3 p4 p5 p6 p7 p8 : Addr × Obj) (B9 : Led) : TakeAll (p0 :: (B1 ++ (B2 ++ (p3 :: (p4 :: (p5 :: (p6 :: (p7 :: (p8 :: (B9)))))))))) (p6 :: (p3 :: (p0 :: (p5 :: (p7 :: (p4 :: (p8 :: (B2 ++ (B9))))))))) (B1) := take_blocks [[p0], B1, B2, [p3], [p4], [p5], [p6], [p7], [p8], B9] 10 rfl [6, 3, 0, 5, 7, 4, 8, 2, 9] [1] (by decide +kernel)
noncomputable section
namespace E_turn_b
def P (w : World) (g : Heap) (s : Shared) (p : Program) (loose : List Str) (mean : EoV) (mg mb : SoV) (L' : Addr) (Q : FsP) (E : VsP) (m : SoV) (I : Addr) (oI : Obj) (i : Nat) (t_ : Tok) (D Dl : Addr) (t tu wd hi nr ny : Nat) (ys : List Value) (al : List Addr) (rs : List (Addr × List Value × Nat)) (col : Nat → List Nat) (h0 h1 h2 h3 : Int) (u1 u4 u5 u6 : Tok) (x10 x11 : Option Value) (U : Led) (c3 c4 c10 c11 : Obj) : Prop := (4 ≤ t) → (t ≤ 6) → (wd ≤ 6) → (hi ≤ 6) → (tu ≤ 11) → (IntsAre ys [h0, h1, h2, h3]) → (rs.map (·.1) = al) → (al.length = hi) → (∀ i < hi, (col i).length = t) → (∀ i < hi, ∀ d ∈ col i, d ≤ wd) → (RunsOk rs col) → (∀ i < (hi + 1) / 2, equalW (wsOf (runsL (intsN ((col i).map (wd - ·))))) (wsOf (runsL (intsN (col (hi - 1 - i))))) = true) → (∀ i < (hi + 1) / 2, equalW (wsOf (runsL (intsN ((col i).map (wd - ·))) ++ [32, 32])) (wsOf (runsL (intsN (col (hi - 1 - i))))) = false) → (∀ i < (hi + 1) / 2, ∀ q < t - 1, equalW (wsOf (runsL (intsN (col (hi - 1 - i))))) (wsOf (runsL (intsN (movedN (col (hi - 1 - i)) q)))) = decide (0 ∈ ((col (hi - 1 - i)).drop q).take 2)) → (∀ i < (hi + 1) / 2, ∀ q < t - 1, witW (wsOf (runsL (intsN ((col i).map (wd - ·))) ++ [32, 32])) (wsOf (runsL (intsN (movedN (col (hi - 1 - i)) q)))) = diffs (maxL (movedN (col (hi - 1 - i)) q) + 1) (colT (col (hi - 1 - i)) (movedN (col (hi - 1 - i)) q))) → (c3.data = .cell (some (.int (wd : Int) u5))) → (c4.data = .cell (some (.int (hi : Int) u6))) → (c10.data = .cell x10) → (c11.data = .cell x11) → ((hd.heap_39 w.params).In g) → (Top p loose mean mg mb g) → (i < (hi + 1) / 2) → (i ≠ tu % ((hi + 1) / 2)) → (Fr g L' s.heap (over ((Str.ofString "i", .int (0 + (i : Int) * 1) t_) :: [(Str.ofString "runs", .ref Dl), (Str.ofString "turn", .int (tu : Int) u4), (Str.ofString "total", .int (t : Int) u1), (Str.ofString "heaps", .ref D)]) m)) → (News g L' s.heap ((I, oI) :: ((L' + 3, c3) :: ((L' + 4, c4) :: ((L' + 10, c10) :: ((L' + 11, c11) :: ((Dl, W.listOf (al.map Value.ref).toArray nr) :: ((D, W.listOf ys.toArray ny) :: (runsT rs ++ ((U))))))))))) → (Apart (((I, oI) :: ((L' + 3, c3) :: ((L' + 4, c4) :: ((L' + 10, c10) :: ((L' + 11, c11) :: ((Dl, W.listOf (al.map Value.ref).toArray nr) :: ((D, W.listOf ys.toArray ny) :: (runsT rs ++ ((U)))))))))).map (·.1))) → wpAny (model Challenge.rw_uc0019_01.row.prog w) ((Lv 850).deeper (lawEnv L')) (execs (lawRun 0 1 (blockOf 13 lawBody) (lawRun 1 1 (blockOf 13 lawBody) (lawRun 2 1 (blockOf 13 lawBody) (lawRun 3 1 (blockOf 13 lawBody) (lawRun 4 8 (blockOf 13 lawBody) []))))) (lawEnv L')) (TurnE g L' I oI (JF L' D Dl t tu nr ny ys al rs u1 u4 c3 c4 U (i + 1)) s Q) E s
@[irreducible] def ζ := upick (by walk_at "m ne") ((ucat un32 (ucat un8 (ucat un2 un1))) P)
@[irreducible] def w := ζ.1.1.1.1.1.1
@[irreducible] def g := ζ.1.1.1.1.1.2
@[irreducible] def s := ζ.1.1.1.1.2.1
@[irreducible] def L' := ζ.1.1.2.1.1.1
@[irreducible] def Q := ζ.1.1.2.1.1.2
@[irreducible] def E := ζ.1.1.2.1.2.1
@[irreducible] def m := ζ.1.1.2.1.2.2
@[irreducible] def I := ζ.1.1.2.2.1.1
@[irreducible] def oI := ζ.1.1.2.2.1.2
@[irreducible] def i := ζ.1.1.2.2.2.1
@[irreducible] def t_ := ζ.1.1.2.2.2.2
@[irreducible] def D := ζ.1.2.1.1.1.1
@[irreducible] def Dl := ζ.1.2.1.1.1.2
@[irreducible] def t := ζ.1.2.1.1.2.1
@[irreducible] def tu := ζ.1.2.1.1.2.2
@[irreducible] def wd := ζ.1.2.1.2.1.1
@[irreducible] def hi := ζ.1.2.1.2.1.2
@[irreducible] def nr := ζ.1.2.1.2.2.1
@[irreducible] def ny := ζ.1.2.1.2.2.2
@[irreducible] def ys := ζ.1.2.2.1.1.1
@[irreducible] def al := ζ.1.2.2.1.1.2
@[irreducible] def rs := ζ.1.2.2.1.2.1
@[irreducible] def col := ζ.1.2.2.1.2.2
@[irreducible] def u1 := ζ.2.1.1.1.1
@[irreducible] def u4 := ζ.2.1.1.1.2
@[irreducible] def U := ζ.2.1.2.2.1
@[irreducible] def c3 := ζ.2.1.2.2.2
@[irreducible] def c4 := ζ.2.2.1.1
@[irreducible] def c10 := ζ.2.2.1.2
@[irreducible] def c11 := ζ.2.2.2
theorem core : P w g s ζ.1.1.1.1.2.2 ζ.1.1.1.2.1.1 ζ.1.1.1.2.1.2 ζ.1.1.1.2.2.1 ζ.1.1.1.2.2.2 L' Q E m I oI i t_ D Dl t tu wd hi nr ny ys al rs col ζ.1.2.2.2.1.1 ζ.1.2.2.2.1.2 ζ.1.2.2.2.2.1 ζ.1.2.2.2.2.2 u1 u4 ζ.2.1.1.2.1 ζ.2.1.1.2.2 ζ.2.1.2.1.1 ζ.2.1.2.1.2 U c3 c4 c10 c11 := by
  intro ht4 ht6 hw hh htu hy hal hall hcl hcb hro hG hH1 hH2 hH3 d3 d4 d10 d11 X Tp hi2 hit F₁ N₁ nd₁
  have hih : i < hi := by lia
  have hih2 : hi - 1 - i < hi := by lia
  have hmb : ∀ d ∈ (col (hi - 1 - i)), d ≤ 6 := fun d hd => Nat.le_trans (hcb _ hih2 d hd) hw
  have hmt := hcl _ hih2
  have hml : (col (hi - 1 - i)).length ≤ 6 := by lia
  have hrs : rs.length = hi := by rw [← hall, ← hal, List.length_map]
  obtain ⟨A1, p1, B1, hrs1, hA1, hp1⟩ := runs_cut (rs := rs) (i := hi - 1 - i) (by lia)
  obtain ⟨A2, p2, B2, hrs2, hA2, hp2⟩ := runs_cut (rs := rs) (i := i) (by lia)
  have hv1 := hro _ _ hp1
  have hv2 := hro _ _ hp2
  have hrl : (al.map Value.ref)[hi - 1 - i]? = some (.ref p1.1) := by rw [← hal, List.getElem?_map, List.getElem?_map, hp1]; rfl
  have hrl2 : (al.map Value.ref)[i]? = some (.ref p2.1) := by rw [← hal, List.getElem?_map, List.getElem?_map, hp2]; rfl
  have hll2 : (col i).length ≤ 6 := by rw [hcl i hih]; exact ht6
  have hlb2 := hcb i hih
  have hla198 : (runsL (intsN ((col i).map (wd - ·)))).length ≤ 198 := lacksN_len hll2 hw
  have hla200 : (runsL (intsN ((col i).map (wd - ·)))).length ≤ 200 := by lia
  have hmi200 : (runsL (intsN (col (hi - 1 - i)))).length ≤ 200 := runsN_len hml hmb
  have sb_0 := Stt.of (V := [(Str.ofString "i", .int (0 + (i : Int) * 1) t_), (Str.ofString "runs", .ref Dl), (Str.ofString "turn", .int (tu : Int) u4), (Str.ofString "total", .int (t : Int) u1), (Str.ofString "heaps", .ref D)]) F₁ N₁ nd₁
  refine useF [Str.ofString "i", Str.ofString "runs"] [(Str.ofString "turn", .int (tu : Int) u4), (Str.ofString "total", .int (t : Int) u1), (Str.ofString "heaps", .ref D)] (fun m => seg_f0 (m := m) (U := (I, oI) :: ((L' + 3, c3) :: ((L' + 11, c11) :: ((D, W.listOf ys.toArray ny) :: (runsT rs ++ ((U))))))) (by lia : (0 + (i : Int) * 1) = (i : Int)) (by lia) hh hih hrl d4 d10) X Tp sb_0 (fun _ => ⟨rfl, rfl, trivial⟩) (fb_tk1 (I, oI) (L' + 3, c3) (L' + 4, c4) (L' + 10, c10) (L' + 11, c11) (Dl, W.listOf (al.map Value.ref).toArray nr) (D, W.listOf ys.toArray ny) (runsT rs) (U)) (by rfl) ?_
  intro c10b d10b h_1 tk_1 st_1
  show wpAny _ _ _ _ _ { s with heap := h_1, toks := tk_1 }
  obtain ⟨⟨m_1, F_1⟩, N_1, nd_1⟩ := st_1
  obtain ⟨N_2, nd_2⟩ := take2 N_1 nd_1 (fb_tk2 (L' + 4, c4) (Dl, W.listOf (al.map Value.ref).toArray nr) (L' + 10, c10b) (I, oI) (L' + 3, c3) (L' + 11, c11) (D, W.listOf ys.toArray ny) (runsT rs) (U))
  rw [hrs1, runsT_cut] at N_2 nd_2
  have sb_2 := Stt.of (V := [(Str.ofString "i", .int (0 + (i : Int) * 1) t_), (Str.ofString "runs", .ref Dl), (Str.ofString "turn", .int (tu : Int) u4), (Str.ofString "total", .int (t : Int) u1), (Str.ofString "heaps", .ref D)]) F_1 N_2 nd_2
  refine useF [Str.ofString "lead"] [(Str.ofString "i", .int (0 + (i : Int) * 1) t_), (Str.ofString "runs", .ref Dl), (Str.ofString "turn", .int (tu : Int) u4), (Str.ofString "total", .int (t : Int) u1), (Str.ofString "heaps", .ref D)] (fun m => seg_f1 (m := m) (U := runsT A1 ++ (runsT B1 ++ ((L' + 4, c4) :: ((Dl, W.listOf (al.map Value.ref).toArray nr) :: ((I, oI) :: ((L' + 3, c3) :: ((L' + 11, c11) :: ((D, W.listOf ys.toArray ny) :: ((U)))))))))) hml hmb hv1 d10b) X Tp sb_2 (fun _ => trivial) (fb_tk3 (runsT A1) (p1.1, W.listOf p1.2.1.toArray p1.2.2) (runsT B1) (L' + 4, c4) (Dl, W.listOf (al.map Value.ref).toArray nr) (L' + 10, c10b) (I, oI) (L' + 3, c3) (L' + 11, c11) (D, W.listOf ys.toArray ny) (U)) (by rfl) ?_
  intro xl dl hdl h_3 tk_3 st_3
  show wpAny _ _ _ _ _ { s with heap := h_3, toks := tk_3 }
  obtain ⟨⟨m_3, F_3⟩, N_3, nd_3⟩ := st_3
  obtain ⟨N_4, nd_4⟩ := take2 N_3 nd_3 (fb_tk4 (wsT w xl dl) (L' + 10, c10b) (p1.1, W.listOf p1.2.1.toArray p1.2.2) (runsT A1) (runsT B1) (L' + 4, c4) (Dl, W.listOf (al.map Value.ref).toArray nr) (I, oI) (L' + 3, c3) (L' + 11, c11) (D, W.listOf ys.toArray ny) (U))
  rw [← runsT_cut, ← hrs1] at N_4 nd_4
  obtain ⟨N_5, nd_5⟩ := take2 N_4 nd_4 (fb_tk5 (runsT rs) (wsT w xl dl) (L' + 10, c10b) (L' + 4, c4) (Dl, W.listOf (al.map Value.ref).toArray nr) (I, oI) (L' + 3, c3) (L' + 11, c11) (D, W.listOf ys.toArray ny) (U))
  rw [hrs2, runsT_cut] at N_5 nd_5
  have sb_5 := Stt.of (V := [(Str.ofString "lead", .ref xl), (Str.ofString "i", .int (0 + (i : Int) * 1) t_), (Str.ofString "runs", .ref Dl), (Str.ofString "turn", .int (tu : Int) u4), (Str.ofString "total", .int (t : Int) u1), (Str.ofString "heaps", .ref D)]) F_3 N_5 nd_5
  refine useF [Str.ofString "lacks", Str.ofString "i", Str.ofString "runs"] [(Str.ofString "lead", .ref xl), (Str.ofString "turn", .int (tu : Int) u4), (Str.ofString "total", .int (t : Int) u1), (Str.ofString "heaps", .ref D)] (fun m => seg_f2 (m := m) (U := runsT A2 ++ (runsT B2 ++ (wsT w xl dl ++ ((L' + 10, c10b) :: ((L' + 4, c4) :: ((I, oI) :: ((L' + 11, c11) :: ((D, W.listOf ys.toArray ny) :: ((U)))))))))) (by lia : (0 + (i : Int) * 1) = (i : Int)) (by lia) hw hrl2 hll2 hlb2 hv2 d3) X Tp sb_5 (fun _ => ⟨rfl, rfl, trivial⟩) (fb_tk6 (runsT A2) (p2.1, W.listOf p2.2.1.toArray p2.2.2) (runsT B2) (wsT w xl dl) (L' + 10, c10b) (L' + 4, c4) (Dl, W.listOf (al.map Value.ref).toArray nr) (I, oI) (L' + 3, c3) (L' + 11, c11) (D, W.listOf ys.toArray ny) (U)) (by rfl) ?_
  intro tl h_6 tk_6 st_6
  show wpAny _ _ _ _ _ { s with heap := h_6, toks := tk_6 }
  obtain ⟨⟨m_6, F_6⟩, N_6, nd_6⟩ := st_6
  obtain ⟨N_7, nd_7⟩ := take2 N_6 nd_6 (fb_tk7 (L' + 3, c3) (Dl, W.listOf (al.map Value.ref).toArray nr) (p2.1, W.listOf p2.2.1.toArray p2.2.2) (runsT A2) (runsT B2) (wsT w xl dl) (L' + 10, c10b) (L' + 4, c4) (I, oI) (L' + 11, c11) (D, W.listOf ys.toArray ny) (U))
  rw [← runsT_cut, ← hrs2] at N_7 nd_7
  have sb_7 := Stt.of (V := [(Str.ofString "lacks", .str (Tx (runsL (intsN ((col i).map (wd - ·))))) tl), (Str.ofString "i", .int (0 + (i : Int) * 1) t_), (Str.ofString "runs", .ref Dl), (Str.ofString "lead", .ref xl), (Str.ofString "turn", .int (tu : Int) u4), (Str.ofString "total", .int (t : Int) u1), (Str.ofString "heaps", .ref D)]) F_6 N_7 nd_7
  refine useF [Str.ofString "lacks", Str.ofString "lead"] [(Str.ofString "i", .int (0 + (i : Int) * 1) t_), (Str.ofString "runs", .ref Dl), (Str.ofString "turn", .int (tu : Int) u4), (Str.ofString "total", .int (t : Int) u1), (Str.ofString "heaps", .ref D)] (fun m => seg_f3 (m := m) (U := runsT rs ++ ((L' + 3, c3) :: ((Dl, W.listOf (al.map Value.ref).toArray nr) :: ((L' + 10, c10b) :: ((L' + 4, c4) :: ((I, oI) :: ((L' + 11, c11) :: ((D, W.listOf ys.toArray ny) :: ((U)))))))))) hdl (runs_lt _) hla200 hmi200 (hG i hi2)) X Tp sb_7 (fun _ => ⟨rfl, rfl, trivial⟩) (fb_tk8 (runsT rs) (L' + 3, c3) (Dl, W.listOf (al.map Value.ref).toArray nr) (wsT w xl dl) (L' + 10, c10b) (L' + 4, c4) (I, oI) (L' + 11, c11) (D, W.listOf ys.toArray ny) (U)) (by rfl) ?_
  intro h_8 tk_8 st_8
  show wpAny _ _ _ _ _ { s with heap := h_8, toks := tk_8 }
  obtain ⟨⟨m_8, F_8⟩, N_8, nd_8⟩ := st_8
  obtain ⟨N_9, nd_9⟩ := take2 N_8 nd_8 (fb_tk9 (wsT w xl dl) (runsT rs) (L' + 3, c3) (Dl, W.listOf (al.map Value.ref).toArray nr) (L' + 10, c10b) (L' + 4, c4) (I, oI) (L' + 11, c11) (D, W.listOf ys.toArray ny) (U))
  refine seg_f4b (U := wsT w xl dl ++ (runsT rs ++ ((L' + 3, c3) :: ((Dl, W.listOf (al.map Value.ref).toArray nr) :: ((L' + 10, c10b) :: ((I, oI) :: ((L' + 11, c11) :: ((D, W.listOf ys.toArray ny) :: ((U)))))))))) (by lia : (0 + (i : Int) * 1) = (i : Int)) (by lia) hh hi2 htu d4 hit X Tp (fr_loc (V := [(Str.ofString "i", .int (0 + (i : Int) * 1) t_), (Str.ofString "turn", .int (tu : Int) u4)]) F_8 ⟨rfl, rfl, trivial⟩) N_9 nd_9 ?_
  intro h_9 tk_9 m_9 V_9 T_9 j_9 fr_9 F_9 N_9 nd_9
  show TurnE _ _ _ _ _ _ _ _ { s with heap := h_9, toks := tk_9 }
  obtain ⟨rfl, rfl⟩ := j_9
  replace F_9 := fr_loc (V := [(Str.ofString "lacks", .str (Tx (runsL (intsN ((col i).map (wd - ·))))) tl), (Str.ofString "lead", .ref xl), (Str.ofString "i", .int (0 + (i : Int) * 1) t_), (Str.ofString "runs", .ref Dl), (Str.ofString "turn", .int (tu : Int) u4), (Str.ofString "total", .int (t : Int) u1), (Str.ofString "heaps", .ref D)]) F_9 ⟨(fr_9 (Str.ofString "lacks") (by decide +kernel)).trans rfl, (fr_9 (Str.ofString "lead") (by decide +kernel)).trans rfl, rfl, (fr_9 (Str.ofString "runs") (by decide +kernel)).trans rfl, rfl, (fr_9 (Str.ofString "total") (by decide +kernel)).trans rfl, (fr_9 (Str.ofString "heaps") (by decide +kernel)).trans rfl, trivial⟩
  obtain ⟨N_10, nd_10⟩ := take2 N_9 nd_9 (fb_tk10 (L' + 4, c4) (wsT w xl dl) (runsT rs) (L' + 3, c3) (Dl, W.listOf (al.map Value.ref).toArray nr) (L' + 10, c10b) (I, oI) (L' + 11, c11) (D, W.listOf ys.toArray ny) (U))
  exact turn_cont (rest := []) (J := JF L' D Dl t tu nr ny ys al rs u1 u4 c3 c4 U (i + 1)) F_9 N_10 nd_10 ([(Str.ofString "runs", .ref Dl), (Str.ofString "turn", .int (tu : Int) u4), (Str.ofString "total", .int (t : Int) u1), (Str.ofString "heaps", .ref D)]) ((L' + 3, c3) :: ((L' + 4, c4) :: ((L' + 10, c10b) :: ((L' + 11, c11) :: ((Dl, W.listOf (al.map Value.ref).toArray nr) :: ((D, W.listOf ys.toArray ny) :: (runsT rs ++ ((U))))))))) ⟨c10b, c11, _, _, d10b, d11, rfl, rfl⟩ ⟨rfl, rfl, rfl, rfl, trivial⟩ TakeAll.whole
end E_turn_b
end
theorem turn_b : ∀ {w g s p loose mean mg mb L' Q E m I oI i t_ D Dl t tu wd hi nr ny ys al rs col h0 h1 h2 h3 u1 u4 u5 u6 x10 x11 U c3 c4 c10 c11}, E_turn_b.P w g s p loose mean mg mb L' Q E m I oI i t_ D Dl t tu wd hi nr ny ys al rs col h0 h1 h2 h3 u1 u4 u5 u6 x10 x11 U c3 c4 c10 c11 := fun {w g s p loose mean mg mb L' Q E m I oI i t_ D Dl t tu wd hi nr ny ys al rs col h0 h1 h2 h3 u1 u4 u5 u6 x10 x11 U c3 c4 c10 c11} => by with_unfolding_all exact pk (c := E_turn_b.ζ) rfl E_turn_b.core ((((((w, g), (s, p)), ((loose, mean), (mg, mb))), (((L', Q), (E, m)), ((I, oI), (i, t_)))), ((((D, Dl), (t, tu)), ((wd, hi), (nr, ny))), (((ys, al), (rs, col)), ((h0, h1), (h2, h3))))), ((((u1, u4), (u5, u6)), ((x10, x11), (U, c3))), ((c4, c10), c11)))
end
section
noncomputable section
namespace E_seg_f
def P (w : World) (g : Heap) (s : Shared) (p : Program) (loose : List Str) (mean : EoV) (mg mb : SoV) (L' : Addr) (Q : FsP) (E : VsP) (m : SoV) (D Dl : Addr) (t tu wd hi nr ny : Nat) (ys : List Value) (al : List Addr) (rs : List (Addr × List Value × Nat)) (col : Nat → List Nat) (h0 h1 h2 h3 : Int) (u1 u4 u5 u6 : Tok) (x10 x11 : Option Value) (U : Led) (c3 c4 c10 c11 : Obj) : Prop := (4 ≤ t) → (t ≤ 6) → (wd ≤ 6) → (hi ≤ 6) → (tu ≤ 11) → (IntsAre ys [h0, h1, h2, h3]) → (rs.map (·.1) = al) → (al.length = hi) → (∀ i < hi, (col i).length = t) → (∀ i < hi, ∀ d ∈ col i, d ≤ wd) → (RunsOk rs col) → (∀ i < (hi + 1) / 2, equalW (wsOf (runsL (intsN ((col i).map (wd - ·))))) (wsOf (runsL (intsN (col (hi - 1 - i))))) = true) → (∀ i < (hi + 1) / 2, equalW (wsOf (runsL (intsN ((col i).map (wd - ·))) ++ [32, 32])) (wsOf (runsL (intsN (col (hi - 1 - i))))) = false) → (∀ i < (hi + 1) / 2, ∀ q < t - 1, equalW (wsOf (runsL (intsN (col (hi - 1 - i))))) (wsOf (runsL (intsN (movedN (col (hi - 1 - i)) q)))) = decide (0 ∈ ((col (hi - 1 - i)).drop q).take 2)) → (∀ i < (hi + 1) / 2, ∀ q < t - 1, witW (wsOf (runsL (intsN ((col i).map (wd - ·))) ++ [32, 32])) (wsOf (runsL (intsN (movedN (col (hi - 1 - i)) q)))) = diffs (maxL (movedN (col (hi - 1 - i)) q) + 1) (colT (col (hi - 1 - i)) (movedN (col (hi - 1 - i)) q))) → (c3.data = .cell (some (.int (wd : Int) u5))) → (c4.data = .cell (some (.int (hi : Int) u6))) → (c10.data = .cell x10) → (c11.data = .cell x11) → ((hd.heap_39 w.params).In g) → (Top p loose mean mg mb g) → (Fr g L' s.heap (over [(Str.ofString "runs", .ref Dl), (Str.ofString "turn", .int (tu : Int) u4), (Str.ofString "total", .int (t : Int) u1), (Str.ofString "heaps", .ref D)] m)) → (News g L' s.heap ((L' + 3, c3) :: ((L' + 4, c4) :: ((L' + 10, c10) :: ((L' + 11, c11) :: ((Dl, W.listOf (al.map Value.ref).toArray nr) :: ((D, W.listOf ys.toArray ny) :: (runsT rs ++ ((U)))))))))) → (Apart (((L' + 3, c3) :: ((L' + 4, c4) :: ((L' + 10, c10) :: ((L' + 11, c11) :: ((Dl, W.listOf (al.map Value.ref).toArray nr) :: ((D, W.listOf ys.toArray ny) :: (runsT rs ++ ((U))))))))).map (·.1))) → (∀ h' tk m, Fr g L' h' m → News g L' h' U → Q (.ret (.bool true)) { s with heap := h', toks := tk }) → wpAny (model Challenge.rw_uc0019_01.row.prog w) ((Lv 850).deeper (lawEnv L')) (execs (lawRun 13 2 lawBody []) (lawEnv L')) Q E s
@[irreducible] def ζ := upick (by walk_at "m ne") ((ucat un32 (ucat un4 (ucat un2 un1))) P)
@[irreducible] def w := ζ.1.1.1.1.1.1
@[irreducible] def g := ζ.1.1.1.1.1.2
@[irreducible] def s := ζ.1.1.1.1.2.1
@[irreducible] def p := ζ.1.1.1.1.2.2
@[irreducible] def L' := ζ.1.1.2.1.1.1
@[irreducible] def Q := ζ.1.1.2.1.1.2
@[irreducible] def E := ζ.1.1.2.1.2.1
@[irreducible] def m := ζ.1.1.2.1.2.2
@[irreducible] def hi := ζ.1.2.1.1.1.2
@[irreducible] def x10 := ζ.2.1.1.1
@[irreducible] def x11 := ζ.2.1.1.2
@[irreducible] def c10 := ζ.2.2.1.2
@[irreducible] def c11 := ζ.2.2.2
theorem core : P w g s p ζ.1.1.1.2.1.1 ζ.1.1.1.2.1.2 ζ.1.1.1.2.2.1 ζ.1.1.1.2.2.2 L' Q E m ζ.1.1.2.2.1.1 ζ.1.1.2.2.1.2 ζ.1.1.2.2.2.1 ζ.1.1.2.2.2.2 ζ.1.2.1.1.1.1 hi ζ.1.2.1.1.2.1 ζ.1.2.1.1.2.2 ζ.1.2.1.2.1.1 ζ.1.2.1.2.1.2 ζ.1.2.1.2.2.1 ζ.1.2.1.2.2.2 ζ.1.2.2.1.1.1 ζ.1.2.2.1.1.2 ζ.1.2.2.1.2.1 ζ.1.2.2.1.2.2 ζ.1.2.2.2.1.1 ζ.1.2.2.2.1.2 ζ.1.2.2.2.2.1 ζ.1.2.2.2.2.2 x10 x11 ζ.2.1.2.1 ζ.2.1.2.2 ζ.2.2.1.1 c10 c11 := by
  intro ht4 ht6 hw hh htu hy hal hall hcl hcb hro hG hH1 hH2 hH3 d3 d4 d10 d11 X Tp F N ND k
  revert X; k_fill; intro X
  show wpAny _ _ (execs (_ :: _ :: []) _) _ _ _
  dsimp only [lawEnv, List.map] at *
  walk_at "m go"
  walk_at "m for"
  walk_at "m go"
  have hz2 : ((hi : Int) + 1).fdiv 2 = (((hi + 1) / 2 : Nat) : Int) := by
    rw [Int.fdiv_eq_ediv_of_nonneg _ (by decide)]; lia
  rename (IsRange _ _ _ _ _ _ _ _) => hir
  rw [hz2] at hir
  refine' for_rangeT (L := L') (n := (hi + 1) / 2) (J := JF L' ζ.1.1.2.2.1.1 ζ.1.1.2.2.1.2 ζ.1.1.2.2.2.1 ζ.1.1.2.2.2.2 ζ.1.2.1.1.2.1 ζ.1.2.1.1.2.2 ζ.1.2.1.2.1.1 ζ.1.2.1.2.1.2 ζ.1.2.1.2.2.1 ζ.1.2.2.2.1.1 ζ.1.2.2.2.1.2 ζ.2.1.2.2 ζ.2.2.1.1 ζ.2.1.2.1) (V₀ := _) (by rfl) hir ?hsm ?hn (by rfl) (by rfl) (by rfl) ‹_› ?lc ‹_› (by k_dflt assumption) ⟨c10, c11, _, _, d10, d11, rfl, rfl⟩ ?tk ?_ ?_
  case hsm => exact rg_small (by lia) (by lia) (by lia) (by lia)
  case hn => exact rg_size (by split <;> lia)
  case lc => walk_at "m loc"
  case tk => exact TakeAll.whole
  · intro i t_ m V T h₁ tk₁ I oI E' hi' j F₁ N₁ nd₁
    obtain ⟨c10, c11, x10, x11, d10, d11, rfl, rfl⟩ := j
    by_cases hit : i = ζ.1.1.2.2.2.2 % ((hi + 1) / 2)
    · exact turn_a ht4 ht6 hw hh htu hy hal hall hcl hcb hro hG hH1 hH2 hH3 d3 d4 d10 d11 X Tp hi' hit F₁ N₁ nd₁
    · exact turn_b ht4 ht6 hw hh htu hy hal hall hcl hcb hro hG hH1 hH2 hH3 d3 d4 d10 d11 X Tp hi' hit F₁ N₁ nd₁
  · intro m V T h₁ tk₁ E' j F₁ N₁ nd₁
    obtain ⟨c10, c11, x10, x11, d10, d11, rfl, rfl⟩ := j
    walk_at "m go"
    try dsimp only
    refine k _ _ _ ‹_› (fun p hp => ?_)
    rename (News _ _ _ _) => Nz
    exact Nz p (by simp only [List.mem_cons, List.mem_append, hp, or_true])
end E_seg_f
end
theorem seg_f : ∀ {w g s p loose mean mg mb L' Q E m D Dl t tu wd hi nr ny ys al rs col h0 h1 h2 h3 u1 u4 u5 u6 x10 x11 U c3 c4 c10 c11}, E_seg_f.P w g s p loose mean mg mb L' Q E m D Dl t tu wd hi nr ny ys al rs col h0 h1 h2 h3 u1 u4 u5 u6 x10 x11 U c3 c4 c10 c11 := fun {w g s p loose mean mg mb L' Q E m D Dl t tu wd hi nr ny ys al rs col h0 h1 h2 h3 u1 u4 u5 u6 x10 x11 U c3 c4 c10 c11} => by with_unfolding_all exact pk (c := E_seg_f.ζ) rfl E_seg_f.core ((((((w, g), (s, p)), ((loose, mean), (mg, mb))), (((L', Q), (E, m)), ((D, Dl), (t, tu)))), ((((wd, hi), (nr, ny)), ((ys, al), (rs, col))), (((h0, h1), (h2, h3)), ((u1, u4), (u5, u6))))), (((x10, x11), (U, c3)), ((c4, c10), c11)))
end
section
theorem lw_tk1 (p0 p1 p2 p3 p4 p5 p6 p7 p8 p9 p10 p11 : Addr × Obj) : TakeAll (p0 :: (p1 :: (p2 :: (p3 :: (p4 :: (p5 :: (p6 :: (p7 :: (p8 :: (p9 :: (p10 :: ([p11])))))))))))) (p0 :: (p1 :: (p2 :: (p3 :: (p4 :: (p5 :: (p6 :: (p7 :: (p8 :: (p9 :: (p10 :: ([p11])))))))))))) ([]) := take_blocks [[p0], [p1], [p2], [p3], [p4], [p5], [p6], [p7], [p8], [p9], [p10], [p11]] 12 rfl [0, 1, 2, 3, 4, 5, 6, 7, 8, 9, 10, 11] [] (by decide +kernel)
theorem lw_tk2 (p0 p1 p2 p3 p4 p5 p6 p7 p8 p9 p10 p11 p12 : Addr × Obj) : TakeAll (p0 :: (p1 :: (p2 :: (p3 :: (p4 :: (p5 :: (p6 :: (p7 :: (p8 :: (p9 :: (p10 :: (p11 :: ([p12]))))))))))))) (p0 :: (p1 :: (p2 :: (p3 :: (p4 :: (p5 :: (p6 :: (p7 :: (p8 :: (p9 :: (p10 :: (p11 :: ([p12]))))))))))))) ([]) := take_blocks [[p0], [p1], [p2], [p3], [p4], [p5], [p6], [p7], [p8], [p9], [p10], [p11], [p12]] 13 rfl [0, 1, 2, 3, 4, 5, 6, 7, 8, 9, 10, 11, 12] [] (by decide +kernel)
theorem lw_tk4 (B0 B1 : Led) (p2 p3 p4 p5 p6 p7 p8 p9 p10 p11 p12 p13 p14 : Addr × Obj) : TakeAll (B0 ++ (B1 ++ (p2 :: (p3 :: (p4 :: (p5 :: (p6 :: (p7 :: (p8 :: (p9 :: (p10 :: (p11 :: (p12 :: (p13 :: ([p14]))))))))))))))) (B0 ++ (B1 ++ (p2 :: (p3 :: (p4 :: (p5 :: (p6 :: (p7 :: (p8 :: (p9 :: (p10 :: (p11 :: (p12 :: (p13 :: ([p14]))))))))))))))) ([]) := take_blocks [B0, B1, [p2], [p3], [p4], [p5], [p6], [p7], [p8], [p9], [p10], [p11], [p12], [p13], [p14]] 15 rfl [0, 1, 2, 3, 4, 5, 6, 7, 8, 9, 10, 11, 12, 13, 14] [] (by decide +kernel)
theorem lw_tk5 (B0 B1 : Led) (p2 p3 p4 p5 p6 p7 p8 p9 p10 p11 p12 p13 p14 : Addr × Obj) : TakeAll (B0 ++ (B1 ++ (p2 :: (p3 :: (p4 :: (p5 :: (p6 :: (p7 :: (p8 :: (p9 :: (p10 :: (p11 :: (p12 :: (p13 :: ([p14]))))))))))))))) (B0 ++ (B1 ++ (p3 :: (p4 :: (p5 :: (p6 :: (p7 :: (p8 :: (p9 :: (p10 :: (p11 :: (p12 :: (p13 :: ([p14])))))))))))))) ([p2]) := take_blocks [B0, B1, [p2], [p3], [p4], [p5], [p6], [p7], [p8], [p9], [p10], [p11], [p12], [p13], [p14]] 15 rfl [0, 1, 3, 4, 5, 6, 7, 8, 9, 10, 11, 12, 13, 14] [2] (by decide +kernel)
theorem lw_tk6 (B0 B1 : Led) (p2 p3 p4 p5 p6 p7 p8 p9 p10 p11 p12 p13 : Addr × Obj) : TakeAll (B0 ++ (B1 ++ (p2 :: (p3 :: (p4 :: (p5 :: (p6 :: (p7 :: (p8 :: (p9 :: (p10 :: (p11 :: (p12 :: ([p13])))))))))))))) (B0 ++ (B1 ++ (p2 :: (p3 :: (p4 :: (p5 :: (p6 :: (p7 :: (p8 :: (p9 :: (p10 :: (p11 :: (p12 :: ([p13])))))))))))))) ([]) := take_blocks [B0, B1, [p2], [p3], [p4], [p5], [p6], [p7], [p8], [p9], [p10], [p11], [p12], [p13]] 14 rfl [0, 1, 2, 3, 4, 5, 6, 7, 8, 9, 10, 11, 12, 13] [] (by decide +kernel)
theorem lw_tk7 (p0 : Addr × Obj) (B1 : Led) (p2 : Addr × Obj) (B3 B4 : Led) (p5 p6 p7 p8 p9 p10 p11 p12 p13 p14 p15 p16 : Addr × Obj) : TakeAll (p0 :: (B1 ++ (p2 :: (B3 ++ (B4 ++ (p5 :: (p6 :: (p7 :: (p8 :: (p9 :: (p10 :: (p11 :: (p12 :: (p13 :: (p14 :: (p15 :: ([p16]))))))))))))))))) (B3 ++ (B4 ++ (p15 :: (p14 :: (p13 :: (p12 :: (p11 :: (p10 :: (p9 :: (p8 :: (p2 :: (p0 :: (B1 ++ (p5 :: (p6 :: (p7 :: ([p16]))))))))))))))))) ([]) := take_blocks [[p0], B1, [p2], B3, B4, [p5], [p6], [p7], [p8], [p9], [p10], [p11], [p12], [p13], [p14], [p15], [p16]] 17 rfl [3, 4, 15, 14, 13, 12, 11, 10, 9, 8, 2, 0, 1, 5, 6, 7, 16] [] (by decide +kernel)
theorem lw_tk8 (B0 B1 : Led) (p2 p3 p4 p5 p6 p7 p8 p9 p10 p11 : Addr × Obj) (B12 : Led) (p13 p14 p15 p16 : Addr × Obj) : TakeAll (B0 ++ (B1 ++ (p2 :: (p3 :: (p4 :: (p5 :: (p6 :: (p7 :: (p8 :: (p9 :: (p10 :: (p11 :: (B12 ++ (p13 :: (p14 :: (p15 :: ([p16]))))))))))))))))) (p3 :: (p4 :: (p15 :: (p14 :: (p11 :: (p13 :: (B12 ++ (B0 ++ (B1 ++ (p2 :: (p5 :: (p6 :: (p7 :: (p8 :: (p9 :: (p10 :: ([p16]))))))))))))))))) ([]) := take_blocks [B0, B1, [p2], [p3], [p4], [p5], [p6], [p7], [p8], [p9], [p10], [p11], B12, [p13], [p14], [p15], [p16]] 17 rfl [3, 4, 15, 14, 11, 13, 12, 0, 1, 2, 5, 6, 7, 8, 9, 10, 16] [] (by decide +kernel)
noncomputable section
namespace E_law_body
def P (w : World) (g : Heap) (s : Shared) (p : Program) (loose : List Str) (mean : EoV) (mg mb : SoV) (L' : Addr) (Q : FsP) (E : VsP) (m : SoV) (sc : Addr) (vs : List Value) (ns : List Int) (c1 c2 c3 c4 c5 c6 c7 c8 c9 c10 c11 : Obj) : Prop := (IntsAre vs ns) → (ns.length ≤ 63) → (g.IsList sc vs.toArray) → (c1.data = .cell (some (.ref sc))) → (c2.data = .cell none) → (c3.data = .cell none) → (c4.data = .cell none) → (c5.data = .cell none) → (c6.data = .cell none) → (c7.data = .cell none) → (c8.data = .cell none) → (c9.data = .cell none) → (c10.data = .cell none) → (c11.data = .cell none) → ((hd.heap_39 w.params).In g) → (Top p loose mean mg mb g) → (Fr g L' s.heap (over [] m)) → (News g L' s.heap ((L' + 11, c11) :: ((L' + 10, c10) :: ((L' + 9, c9) :: ((L' + 8, c8) :: ((L' + 7, c7) :: ((L' + 6, c6) :: ((L' + 5, c5) :: ((L' + 4, c4) :: ((L' + 3, c3) :: ((L' + 2, c2) :: ((L' + 1, c1) :: ([(180, tabObj #[])]))))))))))))) → (Apart (((L' + 11, c11) :: ((L' + 10, c10) :: ((L' + 9, c9) :: ((L' + 8, c8) :: ((L' + 7, c7) :: ((L' + 6, c6) :: ((L' + 5, c5) :: ((L' + 4, c4) :: ((L' + 3, c3) :: ((L' + 2, c2) :: ((L' + 1, c1) :: ([(180, tabObj #[])])))))))))))).map (·.1))) → (∀ h' tk m₁, Fr g L' h' m₁ → (∃ ps, h'.get? 180 = some (tabObj ps)) → Q (.ret (.bool true)) { s with heap := h', toks := tk }) → wpAny (model Challenge.rw_uc0019_01.row.prog w) ((Lv 850).deeper (lawEnv L')) (execs (lawRun 0 1 lawBody (lawRun 1 4 lawBody (lawRun 5 4 lawBody (lawRun 9 1 lawBody (lawRun 10 2 lawBody (lawRun 12 1 lawBody (lawRun 13 2 lawBody []))))))) (lawEnv L')) Q E s
@[irreducible] def ζ := upick (by walk_at "m ne") ((ucat un16 (ucat un8 un2)) P)
@[irreducible] def w := ζ.1.1.1.1.1
@[irreducible] def g := ζ.1.1.1.1.2
@[irreducible] def s := ζ.1.1.1.2.1
@[irreducible] def p := ζ.1.1.1.2.2
@[irreducible] def L' := ζ.1.2.1.1.1
@[irreducible] def Q := ζ.1.2.1.1.2
@[irreducible] def E := ζ.1.2.1.2.1
@[irreducible] def m := ζ.1.2.1.2.2
@[irreducible] def c1 := ζ.1.2.2.2.2
@[irreducible] def c2 := ζ.2.1.1.1.1
@[irreducible] def c3 := ζ.2.1.1.1.2
@[irreducible] def c4 := ζ.2.1.1.2.1
@[irreducible] def c5 := ζ.2.1.1.2.2
@[irreducible] def c6 := ζ.2.1.2.1.1
@[irreducible] def c7 := ζ.2.1.2.1.2
@[irreducible] def c8 := ζ.2.1.2.2.1
@[irreducible] def c9 := ζ.2.1.2.2.2
@[irreducible] def c10 := ζ.2.2.1
@[irreducible] def c11 := ζ.2.2.2
theorem core : P w g s p ζ.1.1.2.1.1 ζ.1.1.2.1.2 ζ.1.1.2.2.1 ζ.1.1.2.2.2 L' Q E m ζ.1.2.2.1.1 ζ.1.2.2.1.2 ζ.1.2.2.2.1 c1 c2 c3 c4 c5 c6 c7 c8 c9 c10 c11 := by
  intro ia hln hl d1 d2 d3 d4 d5 d6 d7 d8 d9 d10 d11 X Tp F N ND k
  have sb_0 := Stt.of (V := []) F N ND
  refine useK (fun m => seg_0 (m := m) ia hln hl d1 d2 d3 d4 d5 d6 d7 d8 d9 d10 d11) X Tp sb_0 (fun _ => trivial) (lw_tk1 (L' + 11, c11) (L' + 10, c10) (L' + 9, c9) (L' + 8, c8) (L' + 7, c7) (L' + 6, c6) (L' + 5, c5) (L' + 4, c4) (L' + 3, c3) (L' + 2, c2) (L' + 1, c1) (180, tabObj #[])) ?_
  intro D ys h0 h1 h2 h3 hy hb h_1 tk_1 st_1
  show wpAny _ _ _ _ _ { s with heap := h_1, toks := tk_1 }
  refine useK (fun m => seg_1 (m := m) hy hb d1 d2 d3 d4 d5 d6 d7 d8 d9 d10 d11) X Tp st_1 (fun _ => ⟨rfl, trivial⟩) (lw_tk2 (D, lst ys) (L' + 11, c11) (L' + 10, c10) (L' + 9, c9) (L' + 8, c8) (L' + 7, c7) (L' + 6, c6) (L' + 5, c5) (L' + 4, c4) (L' + 3, c3) (L' + 2, c2) (L' + 1, c1) (180, tabObj #[])) ?_
  intro zt zn zb zu u1 u2 u3 u4 c2b a1 a2 a3 a4 a5 a6 a7 a8 d2b h_2 tk_2 st_2
  show wpAny _ _ _ _ _ { s with heap := h_2, toks := tk_2 }
  obtain ⟨t, rfl⟩ := Int.eq_ofNat_of_zero_le (show 0 ≤ zt by lia)
  obtain ⟨n, rfl⟩ := Int.eq_ofNat_of_zero_le (show 0 ≤ zn by lia)
  obtain ⟨ba, rfl⟩ := Int.eq_ofNat_of_zero_le (show 0 ≤ zb by lia)
  obtain ⟨tu, rfl⟩ := Int.eq_ofNat_of_zero_le (show 0 ≤ zu by lia)
  rw [Int.toNat_natCast] at a4
  have ht4 : 4 ≤ t := by lia
  have ht6 : t ≤ 6 := by lia
  have hn1 : 1 ≤ n := by lia
  have hn2 : n ≤ 2 ^ t - 2 := pow_nat a4
  have hb8 : ba ≤ 8 := by lia
  have htu : tu ≤ 11 := by lia
  have p64 := pow_le ht6
  have hn62 : n ≤ 62 := by lia
  have hf0 : 1 ≤ n * 2 ^ ba := Nat.mul_pos hn1 (Nat.pos_of_ne_zero (by simp))
  have hf1 : n * 2 ^ ba < 16384 := flag_lt hn62 hb8
  have hwt := wd_le t n
  have hw6 : wdN t n ≤ 6 := by lia
  have hh6 : hiN t n ≤ 6 := by unfold hiN; lia
  have hht : hiN t n ≤ t := by unfold hiN; lia
  refine useK (fun m => seg_2 (m := m) ht4 ht6 hn62 hb8 hf0 hf1 d1 d2b d3 d4 d5 d6 d7 d8 d9 d10 d11) X Tp st_2 (fun _ => ⟨rfl, rfl, rfl, rfl, trivial⟩) (lw_tk2 (D, lst ys) (L' + 11, c11) (L' + 10, c10) (L' + 9, c9) (L' + 8, c8) (L' + 7, c7) (L' + 6, c6) (L' + 5, c5) (L' + 4, c4) (L' + 3, c3) (L' + 2, c2b) (L' + 1, c1) (180, tabObj #[])) ?_
  intro D2 wv u5 u6 c3b c4b dd tb hwv d3b d4b hd0 htb h_3 tk_3 st_3
  show wpAny _ _ _ _ _ { s with heap := h_3, toks := tk_3 }
  have hwl : wv.length = wdN t n := (txs_len2 hwv).trans (names_wd ht4 ht6 hn1 hn2 hb8)
  rw [hwl] at d3b d4b
  rw [show (t : Int) - ((wdN t n : Nat) : Int) = ((hiN t n : Nat) : Int) by unfold hiN; lia] at d4b
  refine useK (fun m => seg_3 (m := m) ht4 ht6 hb8 hwv (by lia) hd0 d1 d2b d3b d4b d5 d6 d7 d8 d9 d10 d11) X Tp st_3 (fun _ => ⟨rfl, rfl, rfl, rfl, rfl, rfl, trivial⟩) (lw_tk4 (hdT w dd) (tbT tb) (D2, W.listOf wv.toArray 0) (D, lst ys) (L' + 11, c11) (L' + 10, c10) (L' + 9, c9) (L' + 8, c8) (L' + 7, c7) (L' + 6, c6) (L' + 5, c5) (L' + 4, c4b) (L' + 3, c3b) (L' + 2, c2b) (L' + 1, c1)) ?_
  intro dd1 hx1 hl1 hring h_4 tk_4 st_4
  show wpAny _ _ _ _ _ { s with heap := h_4, toks := tk_4 }
  obtain ⟨⟨m_4, F_4⟩, N_4, nd_4⟩ := st_4
  rw [ring_ok ht4 ht6 hn1 hn2 hb8] at hring
  rw [← hx1] at F_4
  obtain ⟨N_5, nd_5⟩ := take2 N_4 nd_4 (lw_tk5 (hdT w dd1) (tbT tb) (D2, W.listOf wv.toArray 0) (D, lst ys) (L' + 11, c11) (L' + 10, c10) (L' + 9, c9) (L' + 8, c8) (L' + 7, c7) (L' + 6, c6) (L' + 5, c5) (L' + 4, c4b) (L' + 3, c3b) (L' + 2, c2b) (L' + 1, c1))
  have sb_5 := Stt.of (V := [(Str.ofString "ring", .ref dd1.x), (Str.ofString "words", .ref D2), (Str.ofString "turn", .int (tu : Int) u4), (Str.ofString "number", .int (n : Int) u2), (Str.ofString "total", .int (t : Int) u1), (Str.ofString "heaps", .ref D)]) F_4 N_5 nd_5
  refine useK (fun m => seg_4 (m := m) (D2 := D2) (wv := wv) hh6 d1 d2b d3b d4b d5 d6 d7 d8 d9 d10 d11) X Tp sb_5 (fun _ => ⟨rfl, rfl, rfl, rfl, rfl, rfl, trivial⟩) (lw_tk6 (hdT w dd1) (tbT tb) (D, lst ys) (L' + 11, c11) (L' + 10, c10) (L' + 9, c9) (L' + 8, c8) (L' + 7, c7) (L' + 6, c6) (L' + 5, c5) (L' + 4, c4b) (L' + 3, c3b) (L' + 2, c2b) (L' + 1, c1)) ?_
  intro Dl rs nr n5 D5 c5b d5b hrl hre h_6 tk_6 st_6
  show wpAny _ _ _ _ _ { s with heap := h_6, toks := tk_6 }
  obtain ⟨al, hal⟩ : ∃ al, rs.map (·.1) = al := ⟨_, rfl⟩
  have hall : al.length = hiN t n := by rw [← hal, List.length_map]; exact hrl
  have hro : RunsOk rs fun _ => [] := runs_nil hre
  obtain ⟨⟨m_6, F_6⟩, N_6, nd_6⟩ := st_6
  rw [show (rs.map fun p => Value.ref p.1) = al.map Value.ref by rw [← hal, List.map_map]; rfl] at N_6 nd_6
  have sb_6 := Stt.of (V := [(Str.ofString "runs", .ref Dl), (Str.ofString "ring", .ref dd1.x), (Str.ofString "words", .ref D2), (Str.ofString "turn", .int (tu : Int) u4), (Str.ofString "number", .int (n : Int) u2), (Str.ofString "total", .int (t : Int) u1), (Str.ofString "heaps", .ref D)]) F_6 N_6 nd_6
  refine useK (fun m => seg_l (m := m) (U := (D, lst ys) :: ((L' + 11, c11) :: ((L' + 10, c10) :: ([(L' + 1, c1)])))) (rv := []) (hi := hiN t n) (ba := ba) ht4 ht6 hw6 hh6 hht hb8 htu hring htb hal hall hro (fun st _ => step_ok ht4 ht6 hn1 hn2 hb8 st tu) d2b d3b d4b d5b d6 d7 d8 d9) X Tp sb_6 (fun _ => ⟨rfl, rfl, rfl, rfl, rfl, rfl, trivial⟩) (lw_tk7 (Dl, W.listOf (al.map Value.ref).toArray nr) (runsT rs) (D5, W.listOf (#[] : Array Value) n5) (hdT w dd1) (tbT tb) (D, lst ys) (L' + 11, c11) (L' + 10, c10) (L' + 9, c9) (L' + 8, c8) (L' + 7, c7) (L' + 6, c6) (L' + 5, c5b) (L' + 4, c4b) (L' + 3, c3b) (L' + 2, c2b) (L' + 1, c1)) ?_
  intro V_7 T_7 j_7 h_7 tk_7 st_7
  show wpAny _ _ _ _ _ { s with heap := h_7, toks := tk_7 }
  obtain ⟨dd2, D5b, n5b, rvb, rsb, u2b, e5, e6, e7, e8, e9, x6, x7, x8, x9, hx2, hring2, de5, de6, de7, de8, de9, hrvb, halb, hrob, rfl, rfl⟩ := j_7
  obtain ⟨⟨m_7, F_7⟩, N_7, nd_7⟩ := st_7
  obtain ⟨N_8, nd_8⟩ := take2 N_7 nd_7 (lw_tk8 (hdT w dd2) (tbT tb) (L' + 2, c2b) (L' + 3, c3b) (L' + 4, c4b) (L' + 5, e5) (L' + 6, e6) (L' + 7, e7) (L' + 8, e8) (L' + 9, e9) (D5b, W.listOf rvb.toArray n5b) (Dl, W.listOf (al.map Value.ref).toArray nr) (runsT rsb) (D, W.listOf ys.toArray ys.length) (L' + 11, c11) (L' + 10, c10) (L' + 1, c1))
  refine seg_f (U := hdT w dd2 ++ (tbT tb ++ ((L' + 2, c2b) :: ((L' + 5, e5) :: ((L' + 6, e6) :: ((L' + 7, e7) :: ((L' + 8, e8) :: ((L' + 9, e9) :: ((D5b, W.listOf rvb.toArray n5b) :: ([(L' + 1, c1)])))))))))) (col := colN t n) ht4 ht6 hw6 hh6 htu hy halb hall (fun i _ => col_len t n i) (fun i _ => col_le ht4 ht6 hn1 hn2 i) hrob (g_ok ht4 ht6 hn1 hn2) (fun i hi => (h_ok ht4 ht6 hn1 hn2 i hi 0 (by lia)).1) (fun i hi q hq => (h_ok ht4 ht6 hn1 hn2 i hi q hq).2.1) (fun i hi q hq => (h_ok ht4 ht6 hn1 hn2 i hi q hq).2.2) d3b d4b d10 d11 X Tp (fr_loc (V := [(Str.ofString "runs", .ref Dl), (Str.ofString "turn", .int (tu : Int) u4), (Str.ofString "total", .int (t : Int) u1), (Str.ofString "heaps", .ref D)]) F_7 ⟨rfl, rfl, rfl, rfl, trivial⟩) N_8 nd_8 ?_
  intro hz tkz mz Fz Nz
  obtain ⟨ps, hps⟩ : ∃ ps, (180, tabObj ps) ∈ tbT tb := ⟨_, List.mem_cons_self⟩
  exact k hz tkz mz Fz ⟨ps, (Nz (180, tabObj ps) (by simp only [List.mem_cons, List.mem_append, hps, true_or, or_true])).1⟩
end E_law_body
end
theorem law_body : ∀ {w g s p loose mean mg mb L' Q E m sc vs ns c1 c2 c3 c4 c5 c6 c7 c8 c9 c10 c11}, E_law_body.P w g s p loose mean mg mb L' Q E m sc vs ns c1 c2 c3 c4 c5 c6 c7 c8 c9 c10 c11 := fun {w g s p loose mean mg mb L' Q E m sc vs ns c1 c2 c3 c4 c5 c6 c7 c8 c9 c10 c11} => by with_unfolding_all exact pk (c := E_law_body.ζ) rfl E_law_body.core (((((w, g), (s, p)), ((loose, mean), (mg, mb))), (((L', Q), (E, m)), ((sc, vs), (ns, c1)))), ((((c2, c3), (c4, c5)), ((c6, c7), (c8, c9))), (c10, c11)))
noncomputable section
namespace E_law_ok
def P (w : World) (g : Heap) (s : Shared) (R : RsP) (p : Program) (loose : List Str) (mean : EoV) (mg mb : SoV) (sc : Addr) (vs : List Value) (ns : List Int) : Prop := (IntsAre vs ns) → (ns.length ≤ 63) → ((hd.heap_39 w.params).In g) → (Top p loose mean mg mb g) → (g.IsList sc vs.toArray) → (Gr g s.heap [(180, tabObj #[])]) → (Apart ([(180, tabObj #[])].map (·.1))) → (∀ h' tk, (∀ b o, g.get? b = some o → h'.get? b = some o) → (∃ ps, h'.get? 180 = some (tabObj ps)) → R (.ok (.ret (.bool true))) { s with heap := h', toks := tk }) → codeAny (model Challenge.rw_uc0019_01.row.prog w) (Lv 850) (.call (.ref 214) ⟨[.ref sc], []⟩) R s
@[irreducible] def ζ := upick (by walk_at "m ne") ((ucat un8 un4) P)
@[irreducible] def w := ζ.1.1.1.1
@[irreducible] def g := ζ.1.1.1.2
@[irreducible] def s := ζ.1.1.2.1
@[irreducible] def p := ζ.1.2.1.1
theorem core : P w g s ζ.1.1.2.2 p ζ.1.2.1.2 ζ.1.2.2.1 ζ.1.2.2.2 ζ.2.1.1 ζ.2.1.2 ζ.2.2.1 ζ.2.2.2 := by
  intro ia hln X Tp hl G ND k
  revert X; k_fill; intro X
  refine' enterC (binds := [(Str.ofString "script", .ref ζ.2.1.2)]) (cl := fun L' => [(Str.ofString "moved", L' + 11), (Str.ofString "mirror", L' + 10), (Str.ofString "count", L' + 9), (Str.ofString "lexer", L' + 8), (Str.ofString "grown", L' + 7), (Str.ofString "line", L' + 6), (Str.ofString "rows", L' + 5), (Str.ofString "high", L' + 4), (Str.ofString "wide", L' + 3), (Str.ofString "base", L' + 2), (Str.ofString "script", L' + 1)]) X Tp G ND ?k6 ?k7 ?k8 ?k9 ?kB ?kD ?kL ?_ ?c2 ?c3 ?c4
  case k6 => k_is
  case k7 => k_is
  case k8 => decide
  case k9 => exact BindsTo.of_eq rfl
  case kB => exact rfl
  case kD => decide +kernel
  case kL => exact fun _ => rfl
  case c2 => exact rfl
  case c3 => exact rfl
  case c4 => exact rfl
  clear ND
  intro L' h' tk' F' c11 d11 c10 d10 c9 d9 c8 d8 c7 d7 c6 d6 c5 d5 c4 d4 c3 d3 c2 d2 c1 d1 N' ND
  (try dsimp only [List.cons_append, List.nil_append] at N' ND)
  try dsimp only
  try k_fold
  refine law_body (sc := ζ.2.1.2) ia hln hl d1 d2 d3 d4 d5 d6 d7 d8 d9 d10 d11 X Tp (fr_loc (V := []) F' trivial) N' ND ?_
  intro hz tkz mz Fz htab
  exact lve_ (T := []) Fz (fun p hp => absurd hp List.not_mem_nil) (fun G => k hz tkz G.keep htab)
end E_law_ok
end
theorem law_ok : ∀ {w g s R p loose mean mg mb sc vs ns}, E_law_ok.P w g s R p loose mean mg mb sc vs ns := fun {w g s R p loose mean mg mb sc vs ns} => by with_unfolding_all exact pk (c := E_law_ok.ζ) rfl E_law_ok.core ((((w, g), (s, R)), ((p, loose), (mean, mg))), ((mb, sc), (vs, ns)))
end
section
theorem fin : PySem.Challenge.rw_uc0019_01.Holds := hd (by
  k_fill
  intro w s₀ s₁ mg mb G Y fa o pm cd doc dV kV ho hdd hcd hD hmg hg args vals as hpre hlay hrd hwl hlo
  have KX := km_in_of Y
  km_tabs Y
  have X := (Ground.X G).1
  have V := (Ground.X G).2
  refine Ground.open G ?_
  intro T B D TE TW
  have e1 : mg (Str.ofString "law") = some (.ref 214) := mg_of KX (Top.g T) (by kernel_rfl)
  have e2 : mg (Str.ofString "law") = some (.ref fa) := hmg
  rw [e1] at e2
  cases e2
  have hT9 : TabsAt [(184, 180)] s₁.heap := List.forall_mem_cons.mpr ⟨⟨codeHd_of_K (c := 184) (P := 180) KX (by kernel_rfl), hT8 180 (by k_mem)⟩, fun _ h => nomatch h⟩
  clear ho hdd hcd hD hmg D
  wrow_args hpre hlay hrd hwl hlo
  first | refine callC_kw (enter_call ?_) | refine enter_call ?_
  w_top on
  refine kn_post hT9 (fun _ _ => rfl) ?_
  rename (IntsAre _ _) => hia
  rename (Heap.IsList _ _ _) => hlst
  refine code_le (B := Lv 850) (ale_lv (by rfl) (Nat.le_of_ble_eq_true rfl) (Nat.le_of_ble_eq_true rfl)) ?_
  refine law_ok (g := ghostOf s₁.heap [(184, 180)]) hia (by lia) (ghost_K hT9 KX (by kernel_rfl)) (ghost_top hT9 T) (ghost_list hT9 hlst) ⟨fun b o e => of_hideAll _ e, ?own, Nat.le_of_eq (hideAll_size _ _)⟩ (List.nodup_cons.mpr ⟨List.not_mem_nil, List.nodup_nil⟩) ?kfin
  case own =>
    intro q hq
    rw [List.mem_singleton] at hq
    subst hq
    exact ⟨hT8 180 List.mem_cons_self, hideAll_none _ List.mem_cons_self⟩
  case kfin =>
    intro h' tk keep htab
    refine ⟨⟨.inl ⟨.bool true, .bool true, [], rfl, ?hn, .bool true, ?hp, ?hu⟩, keep, rfl, hg⟩, htab, trivial⟩
    case hn => intro _; rfl
    case hp => first | (with_unfolding_all rfl) | kernel_rfl | (simp [Challenge.rw_uc0019_01]; done)
    case hu => intro _; exact ⟨List.nodup_nil, fun _ h => nomatch h⟩)
end
end Mine
end
theorem PySem.Challenge.cw_uc0019_01_holds : PySem.Challenge.rw_uc0019_01.Holds :=
  Mine.fin
