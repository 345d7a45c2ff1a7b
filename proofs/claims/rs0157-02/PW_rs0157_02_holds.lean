import PyProof.Rows.All
import Wide.All
import OpenK.AllK
import Wide.FinOn
import PySem.Challenge.RW_rs0157_02
-- HX2
open PySem PySem.W PyProof.Rows
set_option Elab.async false
set_option maxRecDepth 100000
set_option maxHeartbeats 8000000
namespace Mine
def keepOf (b : List Stmt) : List Stmt := (b.take 6).drop 1 ++ ((b.take 14).drop 7 ++ ((b.take 20).drop 15 ++ b.drop 21))
noncomputable def view : Program := { PySem.Challenge.rw_rs0157_02.prog with main := { PySem.Challenge.rw_rs0157_02.prog.main with body := keepOf PySem.Challenge.rw_rs0157_02.prog.main.body } }
noncomputable abbrev look : Shared → Bool := fun s => xlAt Mine.view [] s && recOk (RowW.records (OpenRow.toRowW (OpenLaw.row PySem.Challenge.rw_rs0157_02))) s
theorem opener (H : Hook) {d : DefRec} {kwd : List (Str × Expr)}
    (hl : LeftO (OpenRow.toRowW (OpenLaw.row PySem.Challenge.rw_rs0157_02)).prog view [] look H.obs H.val 2610) (hdef : defOf view (OpenLaw.row PySem.Challenge.rw_rs0157_02).name = some (d, kwd))
    (hp : (OpenRow.toRowW (OpenLaw.row PySem.Challenge.rw_rs0157_02)).prog.theDef (OpenLaw.row PySem.Challenge.rw_rs0157_02).name = some (d.params, d.body, d.scope)) (hk : kwWritten? d.params.kwonlyargs d.params.kw_defaults = some kwd)
    (k1 : (OpenLaw.row PySem.Challenge.rw_rs0157_02).wellSaid = true) (hw : (OpenRow.toRowW (OpenLaw.row PySem.Challenge.rw_rs0157_02)).promised) (hc : WalkO view [] (XL view []) H.says (OpenRow.toRowW (OpenLaw.row PySem.Challenge.rw_rs0157_02)) d kwd fun f vs => PySem.call f vs) : (OpenLaw.row PySem.Challenge.rw_rs0157_02).Holds :=
  holds_open (Xt := look) hl H.of H.keeps (fun s e => xl_of s (Bool.and_eq_true_iff.mp e).1) XL.keeps hdef hp hk (fun s e => recFacts_of (Bool.and_eq_true_iff.mp e).2) (by rfl) k1 (by decide +kernel) ⟨rfl, rfl, rfl, rfl, rfl, by decide +kernel⟩ hw hc
theorem saidT : PySem.Challenge.rw_rs0157_02.wellSaid = true := by kernel_rfl
end Mine
local macro_rules | `(tactic| o_head $H) => `(tactic| (refine Mine.opener $H ?hl (by rfl) (by rfl) (by rfl) (by assumption) ?hw ?hc; case hl => intro w; kernel_rfl))
local macro_rules | `(tactic| o_law) => `(tactic| refine holds_law Mine.saidT fun said => ?_)
open_top hd2 for PySem.Challenge.rw_rs0157_02

-- Base
open PySem PySem.W PyProof.Rows
set_option Elab.async false
set_option maxRecDepth 100000
namespace Mine

/-- a goal at which the walk stands still -/
noncomputable def Stop (P : Prop) : Prop := P

/-- what a cut hands on: a state of the frame, told by a letter c -/
noncomputable def Hand {σ : Type} (g : Heap) (L : Addr) (s : Shared) (Led : σ → List (Addr × Obj)) (ps : σ → List (Str × Value)) (stored : List Str) (m : Str → Option Value) (D : σ → Prop) (s₂ : Shared) : Prop :=
  ∃ (c : σ) (h : Heap) (tk : Nat) (m' : Str → Option Value) (nx : List (Addr × Obj)), s₂ = { s with heap := h, toks := tk } ∧ Fr g L h m' ∧ News g L h nx ∧ (∀ p ∈ Led c, p ∈ nx) ∧ (∀ p ∈ ps c, m' p.1 = some p.2) ∧ (∀ z, (∀ p ∈ ps c, z ≠ p.1) → stored.contains z = false → m' z = m z) ∧ D c

theorem Hand.mk {σ : Type} {g : Heap} {L : Addr} {s : Shared} {Led : σ → List (Addr × Obj)} {ps : σ → List (Str × Value)} {stored : List Str} {m m' : Str → Option Value} {D : σ → Prop} {h : Heap} {tk : Nat} {nx : List (Addr × Obj)} (c : σ)
    (F : Fr g L h m') (N : News g L h nx) (hn : ∀ p ∈ Led c, p ∈ nx) (hk : ∀ p ∈ ps c, m' p.1 = some p.2) (hr : ∀ z, (∀ p ∈ ps c, z ≠ p.1) → stored.contains z = false → m' z = m z) (hd : D c) :
    Stop (Hand g L s Led ps stored m D { s with heap := h, toks := tk }) := ⟨c, h, tk, m', nx, rfl, F, N, hn, hk, hr, hd⟩

theorem cutF {σ : Type} {prog : Program} {w : World} {A : Around} {E : Value → Shared → Prop} {Q : Flow → Shared → Prop} {s : Shared} {env : Env} {g : Heap} {L : Addr} {m : Str → Option Value} {news : List (Addr × Obj)} {st : Stmt} {rest : List Stmt}
    (Led : σ → List (Addr × Obj)) (ps : σ → List (Str × Value)) (stored : List Str) (D : σ → Prop)
    (_F : Fr g L s.heap m) (_N : News g L s.heap news)
    (h1 : wpAny (model prog w) A (exec st env) (fun f s₂ => match f with | .next => Stop (Hand g L s Led ps stored m D s₂) | f => Q f s₂) E s)
    (h2 : ∀ (c : σ) (u : Str → Option Value) h tk, D c → Fr g L h (kstB (fun z => if stored.contains z then u z else m z) (ps c)) → News g L h (Led c) →
      wpAny (model prog w) A (execs rest env) Q E { s with heap := h, toks := tk }) :
    wpAny (model prog w) A (execs (st :: rest) env) Q E s := by
  refine wpAny_execs_cons (wpAny_mono h1 (fun f s₂ p => ?_) fun _ _ e => e)
  cases f with
  | next =>
    obtain ⟨c, h, tk, m', nx, rfl, F, N, hn, hk, hr, hd⟩ := p
    exact h2 c m' h tk hd (ksw_fr hk hr F) fun p hp => N p (hn p hp)
  | brk => exact p
  | cont => exact p
  | ret v => exact p

/-- the end of a called def, at which the walk stands still -/
noncomputable def RetP (Q : Value → Shared → Prop) (v : Value) (s : Shared) : Prop := Q v s

theorem code_pure {prog : Program} {w : World} {A A₀ : Around} {s : Shared} {K : Frag} {L : Addr} {h₀ base : Heap} {m mg mb : Str → Option Value} {p : Program} {loose : List Str} {mean : ExcName → Option Value}
    {env : Env} {outer : List Env} {Q E : Value → Shared → Prop} {name qual : Str} {params : Arguments} {body : List Stmt} {scope : Scope} {dV kV doc pm cdv ct oc : Value} {an od : Option Addr} {osl : Array (Option Value)} {f : Addr} {args : Args} {binds : List (Str × Value)}
    (B : Below A₀ base outer h₀) (F : Fr h₀ L s.heap m) (X₀ : K.In h₀) (T : Top p loose mean mg mb h₀) (hA : A.frames = some (env :: outer)) (hf : env.frame = some L) (hke : env.scope.kind = .function)
    (ho : K.lookup f = some ⟨oc, od, .func (fnOf name qual params body scope dV kV doc pm an cdv ct), osl⟩) (hcd : codeIn K cdv qual = true) (hroom : A.depth < recursionLimit)
    (hbind : BindsTo s (fnOf name qual params body scope dV kV doc pm an cdv ct) args binds) (hloc : ∀ y ∈ binds, scope.names.lookup y.1 = some .local)
    (h : ∀ g L' h₁, g = s.heap → Fr g L' h₁ (fun y => binds.reverse.lookup y) → News g L' h₁ [] → Below A base (env :: outer) g → K.In g → Top p loose mean mg mb g →
      wpAny (model prog w) (A.deeper (envOf qual scope L' f cdv)) (execs body (envOf qual scope L' f cdv))
        (fun fl s' => RetP Q (match fl with | .ret v => v | _ => .none) s')
        (fun e s' => wpAny (model prog w) (A.deeper (envOf qual scope L' f cdv)) (leaving (envOf qual scope L' f cdv) e) (fun _ s'' => E e s'') (fun e' s'' => E e' s'') s')
        { s with heap := h₁, toks := s.toks + binds.length })
    (hco : scope.isCoroutine = false) (hgen : scope.isGenerator = false) (hk : scope.kind = .function)
    (hcell : ∀ x ∈ scope.names, x.2 ≠ .cell) : codeAny (model prog w) A (.call (.ref f) args) (fun r s' => match r with | .ok (.ret v) => Q v s' | .ok _ => False | .error e => E e s') s := by
  have X : K.In s.heap := X₀.keeps F.keep
  obtain ⟨FG, BG, st, lv⟩ := groundX (R := fun _ _ => True) B F News.nil hA hf hke
  refine codeAny_call_def (fd := fnOf name qual params body scope dV kV doc pm an cdv ct) (body := body) (binds := binds) hroom (X _ _ ho) rfl (T.nolimit.keeps F.keep) (codeRec_of X hcd) rfl hbind hcell hloc (fun h₁ hns hk₁ => ?_) hco hgen hk
  exact h s.heap s.heap.objs.size h₁ rfl ⟨hns, hk₁, Nat.le_refl _⟩ News.nil BG X (T.keeps F.keep)

/-- a def that changes nothing that stood before its call -/
noncomputable def Pure (prog : Program) (w : World) (K : Frag) (p : Program) (loose : List Str) (mean : ExcName → Option Value) (mg mb : Str → Option Value) (f : Addr) (dd uu : Nat) (vs : List Value) (Pre : Heap → Prop) (Post : Heap → Value → Heap → Prop) : Prop :=
  ∀ (dp un : Nat) (gd : Option (List Code)) (cn : Str) (cs : Scope) (a : Addr) (ccd : Value) (cl : List (Str × Addr)) (outer : List Env) (A₀ : Around) (base h₀ : Heap) (L : Addr) (m : Str → Option Value) (s : Shared) (Q E : Value → Shared → Prop),
    Below A₀ base outer h₀ → Fr h₀ L s.heap m → K.In h₀ → Top p loose mean mg mb h₀ → cs.kind = .function → dp + dd < recursionLimit → un + uu < cLine → Pre s.heap →
    (∀ v h' tk', s.heap.StaysIn h' → Post s.heap v h' → Q v { s with heap := h', toks := tk' }) →
    wpAny (model prog w) (ktrTop dp un gd cn cs L a ccd cl outer) (call (.ref f) vs) Q E s

theorem Fr.stays {h₀ h h' : Heap} {L : Addr} {m : Str → Option Value} (F : Fr h₀ L h m) (k : h.StaysIn h') : Fr h₀ L h' m := by
  obtain ⟨oL, a1, a2, hL, a3⟩ := F.ns
  exact ⟨⟨oL, a1, a2, k _ _ hL, a3⟩, fun b o e => k _ _ (F.keep b o e), F.above⟩
theorem News.stays {h₀ h h' : Heap} {L : Addr} {news : List (Addr × Obj)} (N : News h₀ L h news) (k : h.StaysIn h') : News h₀ L h' news := fun p hp => ⟨k _ _ (N p hp).1, (N p hp).2⟩
theorem News.add {h₀ h h' : Heap} {L a : Addr} {m : Str → Option Value} {o : Obj} {news : List (Addr × Obj)} (F : Fr h₀ L h m) (N : News h₀ L h news) (k : h.StaysIn h') (ha : h.objs.size ≤ a) (ho : h'.get? a = some o) : News h₀ L h' ((a, o) :: news) := fun p hp => by
  rcases List.mem_cons.mp hp with rfl | hp
  · refine ⟨ho, fun e => ?_, ?_⟩
    · have e' : a = L := e
      subst e'
      exact Nat.lt_irrefl _ (Nat.lt_of_lt_of_le F.ns.lt ha)
    · cases q : h₀.get? a with
      | none => rfl
      | some o' => exact absurd (Nat.lt_of_lt_of_le (Heap.lt_size (F.keep _ _ q)) ha) (Nat.lt_irrefl _)
  · exact ⟨k _ _ (N p hp).1, (N p hp).2⟩
theorem News.lt {h₀ h : Heap} {L a : Addr} {news : List (Addr × Obj)} (N : News h₀ L h news) (ha : h.objs.size ≤ a) : ∀ p ∈ news, p.1 < a := fun p hp => Nat.lt_of_lt_of_le (Heap.lt_size (N p hp).1) ha

theorem Pure.call {prog : Program} {w : World} {K : Frag} {p : Program} {loose : List Str} {mean : ExcName → Option Value} {mg mb : Str → Option Value} {f : Addr} {dd uu : Nat} {vs : List Value} {Pre : Heap → Prop} {Post : Heap → Value → Heap → Prop}
    (C : Pure prog w K p loose mean mg mb f dd uu vs Pre Post) {dp un : Nat} {gd : Option (List Code)} {cn : Str} {cs : Scope} {a : Addr} {ccd : Value} {cl : List (Str × Addr)} {outer : List Env} {A₀ : Around} {base h₀ : Heap} {L : Addr} {m : Str → Option Value} {s : Shared} {Q E : Value → Shared → Prop} {news : List (Addr × Obj)}
    (B : Below A₀ base outer h₀) (F : Fr h₀ L s.heap m) (X : K.In h₀) (T : Top p loose mean mg mb h₀) (N : News h₀ L s.heap news) (hk : cs.kind = .function) (hd : dp + dd < recursionLimit) (hu : un + uu < cLine) (hp : Pre s.heap)
    (ret : ∀ v h' tk', s.heap.StaysIn h' → Post s.heap v h' → Fr h₀ L h' m → News h₀ L h' news → Q v { s with heap := h', toks := tk' }) :
    wpAny (model prog w) (ktrTop dp un gd cn cs L a ccd cl outer) (PySem.call (.ref f) vs) Q E s :=
  C dp un gd cn cs a ccd cl outer A₀ base h₀ L m s Q E B F X T hk hd hu hp fun v h' tk' k q => ret v h' tk' k q (Fr.stays F k) (News.stays N k)

/-- an answer by value -/
noncomputable def IsV (mk : Tok → Value) : Heap → Value → Heap → Prop := fun _ v _ => ∃ t, v = mk t

theorem stays_of {g h' : Heap} {L : Addr} {m : Str → Option Value} {s : Shared} (hg : g = s.heap) (F : Fr g L h' m) : s.heap.StaysIn h' := hg ▸ F.keep

theorem isV_int {n n' : Int} {t : Tok} {h h' : Heap} (e : n = n') : IsV (fun t => .int n' t) h (.int n t) h' := ⟨t, by rw [e]⟩
theorem isV_str {n n' : Str} {t : Tok} {h h' : Heap} (e : n = n') : IsV (fun t => .str n' t) h (.str n t) h' := ⟨t, by rw [e]⟩
theorem isV_bool {n n' : Bool} {h h' : Heap} (e : n = n') : IsV (fun _ => .bool n') h (.bool n) h' := ⟨0, by rw [e]⟩

/-- an answer that is a new object -/
noncomputable def NewObj (P : Obj → Prop) : Heap → Value → Heap → Prop := fun h v h' => ∃ a o, v = .ref a ∧ h.get? a = none ∧ h'.get? a = some o ∧ P o
theorem NewObj.of {P : Obj → Prop} {g h' : Heap} {s : Shared} {L a : Addr} {o : Obj} {news : List (Addr × Obj)} (hg : g = s.heap) (N : News g L h' news) (hm : (a, o) ∈ news) (hp : P o) : NewObj P s.heap (.ref a) h' :=
  ⟨a, o, rfl, hg ▸ (N _ hm).2.2, (N _ hm).1, hp⟩
theorem News.addN {h₀ h h' : Heap} {L a : Addr} {m : Str → Option Value} {o : Obj} {news : List (Addr × Obj)} (F : Fr h₀ L h m) (N : News h₀ L h news) (k : h.StaysIn h') (ha : h.get? a = none) (ho : h'.get? a = some o) : News h₀ L h' ((a, o) :: news) := fun p hp => by
  rcases List.mem_cons.mp hp with rfl | hp
  · refine ⟨ho, fun e => ?_, ?_⟩
    · have e' : a = L := e
      subst e'
      obtain ⟨oL, _, _, hL, _⟩ := F.ns
      rw [ha] at hL; cases hL
    · cases q : h₀.get? a with
      | none => rfl
      | some o' => have := F.keep _ _ q; rw [ha] at this; cases this
  · exact ⟨k _ _ (N p hp).1, (N p hp).2⟩
theorem News.neN {h₀ h : Heap} {L a : Addr} {news : List (Addr × Obj)} (N : News h₀ L h news) (ha : h.get? a = none) : ∀ p ∈ news, p.1 ≠ a := fun p hp e => by
  have := (N p hp).1
  rw [e, ha] at this; cases this

theorem code_pureC {prog : Program} {w : World} {A A₀ : Around} {s : Shared} {K : Frag} {L : Addr} {h₀ base : Heap} {m mg mb : Str → Option Value} {p : Program} {loose : List Str} {mean : ExcName → Option Value}
    {env : Env} {outer : List Env} {Q E : Value → Shared → Prop} {name qual : Str} {params : Arguments} {body : List Stmt} {scope : Scope} {dV kV doc pm cdv ct oc : Value} {an od : Option Addr} {osl : Array (Option Value)} {f : Addr} {args : Args} {binds : List (Str × Value)}
    (B : Below A₀ base outer h₀) (F : Fr h₀ L s.heap m) (X₀ : K.In h₀) (T : Top p loose mean mg mb h₀) (hA : A.frames = some (env :: outer)) (hf : env.frame = some L) (hke : env.scope.kind = .function)
    (ho : K.lookup f = some ⟨oc, od, .func (fnOf name qual params body scope dV kV doc pm an cdv ct), osl⟩) (hcd : codeIn K cdv qual = true) (hroom : A.depth < recursionLimit)
    (hbind : BindsTo s (fnOf name qual params body scope dV kV doc pm an cdv ct) args binds) (hkind : (binds.all fun y => scope.names.lookup y.1 == some .local || scope.names.lookup y.1 == some .cell) = true)
    (hnd : ((cellsFrom 0 scope.names []).map (·.1)).Nodup)
    (h : ∀ g L' h₁ tk cells, g = s.heap → Fr g L' h₁ (bindL (envOfC qual scope L' f cdv).kindOf binds fun _ => none) → News g L' h₁ (cells ++ []) →
      CellsAre (bindC (envOfC qual scope L' f cdv).kindOf binds fun _ => none) (cellsFrom (L' + 1) scope.names []) cells → Below A base (env :: outer) g → K.In g → Top p loose mean mg mb g → g.objs.size = L' →
      wpAny (model prog w) (A.deeper (envOfC qual scope L' f cdv)) (execs body (envOfC qual scope L' f cdv))
        (fun fl s' => RetP Q (match fl with | .ret v => v | _ => .none) s')
        (fun e s' => wpAny (model prog w) (A.deeper (envOfC qual scope L' f cdv)) (leaving (envOfC qual scope L' f cdv) e) (fun _ s'' => E e s'') (fun e' s'' => E e' s'') s')
        { s with heap := h₁, toks := tk })
    (hco : scope.isCoroutine = false) (hgen : scope.isGenerator = false) (hk : scope.kind = .function) :
    codeAny (model prog w) A (.call (.ref f) args) (fun r s' => match r with | .ok (.ret v) => Q v s' | .ok _ => False | .error e => E e s') s := by
  have X : K.In s.heap := X₀.keeps F.keep
  obtain ⟨_, BG, _, _⟩ := groundX (R := fun _ _ => True) B F News.nil hA hf hke
  refine codeAny_call_function hroom (X _ _ ho) rfl hco hgen rfl (codeRec_of X hcd) (hbind _ _ _ _ ?_)
  refine wpAny_newFunctionEnv_cells hk (kindsX hkind _) fun env' he s' x => ?_
  subst he
  refine ⟨(T.nolimit.keeps F.keep).keeps x.toInCall.keep, codeAny_func ?_⟩
  obtain ⟨h₁, tk, rfl, _⟩ := x.done
  obtain ⟨cells, NC, Y⟩ := Cl.news (h₀ := s.heap) (Nat.le_refl _) fun n c hm => ⟨x.cell n c (lookup_of_mem_nodup (cellsFrom_names scope.names 0 (s.heap.objs.size + 1) [] [] rfl ▸ hnd) hm), x.above n c hm⟩
  exact h s.heap s.heap.objs.size h₁ tk cells rfl ⟨x.toInCall.ns, x.toInCall.keep, Nat.le_refl _⟩ (by rw [List.append_nil]; exact NC) Y BG X (T.keeps F.keep) rfl

/-- all but D stands as it stood -/
noncomputable def StaysBut (D : Addr) (h h' : Heap) : Prop := ∀ b o, b ≠ D → h.get? b = some o → h'.get? b = some o
theorem stays_but {g h' : Heap} {L D : Addr} {m : Str → Option Value} {s : Shared} (hg : g = s.heap.hide D) (F : Fr g L h' m) : StaysBut D s.heap h' := fun b o hb e =>
  F.keep b o (by rw [hg]; exact (Heap.hide_ne _ hb).trans e)

theorem code_mut {prog : Program} {w : World} {A A₀ : Around} {s : Shared} {K : Frag} {L : Addr} {h₀ base : Heap} {m mg mb : Str → Option Value} {p : Program} {loose : List Str} {mean : ExcName → Option Value}
    {env : Env} {outer : List Env} {Q E : Value → Shared → Prop} {name qual : Str} {params : Arguments} {body : List Stmt} {scope : Scope} {cl : List (Str × Addr)} {dV kV doc pm cdv ct : Value} {an : Option Addr} {f D : Addr} {oD fo : Obj} {args : Args} {binds : List (Str × Value)}
    (B : Below A₀ base outer h₀) (F : Fr h₀ L s.heap m) (X₀ : K.In h₀) (T : Top p loose mean mg mb h₀) (hA : A.frames = some (env :: outer)) (hf : env.frame = some L) (hke : env.scope.kind = .function)
    (ho : s.heap.get? f = some fo) (hd : fo.data = .func (fnX name qual params body scope cl dV kV doc pm an cdv ct)) (hcd : s.heap.CodeRec cdv qual) (hroom : A.depth < recursionLimit)
    (hD : s.heap.get? D = some oD) (hD0 : h₀.get? D = none) (hDL : D ≠ L)
    (hbind : BindsTo s (fnX name qual params body scope cl dV kV doc pm an cdv ct) args binds) (hloc : ∀ y ∈ binds, scope.names.lookup y.1 = some .local)
    (h : ∀ g L' h₁, g = s.heap.hide D → Fr g L' h₁ (fun y => binds.reverse.lookup y) → News g L' h₁ [(D, oD)] → Below A base (env :: outer) g → K.In g → Top p loose mean mg mb g →
      wpAny (model prog w) (A.deeper (envX qual scope L' f cdv cl)) (execs body (envX qual scope L' f cdv cl))
        (fun fl s' => RetP Q (match fl with | .ret v => v | _ => .none) s')
        (fun e s' => wpAny (model prog w) (A.deeper (envX qual scope L' f cdv cl)) (leaving (envX qual scope L' f cdv cl) e) (fun _ s'' => E e s'') (fun e' s'' => E e' s'') s')
        { s with heap := h₁, toks := s.toks + binds.length })
    (hcell : ∀ x ∈ scope.names, x.2 ≠ .cell) (hco : scope.isCoroutine = false) (hgen : scope.isGenerator = false) (hk : scope.kind = .function) :
    codeAny (model prog w) A (.call (.ref f) args) (fun r s' => match r with | .ok (.ret v) => Q v s' | .ok _ => False | .error e => E e s') s := by
  have N : News h₀ L s.heap [(D, oD)] := fun q hq => by
    obtain rfl := List.mem_singleton.mp hq
    exact ⟨hD, hDL, hD0⟩
  obtain ⟨FG, BG, st, lv⟩ := groundX (R := fun _ _ => True) B F N hA hf hke
  refine codeAny_call_def (fd := fnX name qual params body scope cl dV kV doc pm an cdv ct) (body := body) (binds := binds) hroom ho hd (T.nolimit.keeps F.keep) hcd rfl hbind hcell hloc (fun h₁ hns hk₁ => ?_) hco hgen hk
  refine h (s.heap.hide D) s.heap.objs.size h₁ rfl ⟨hns, fun b o e => hk₁ b o (Heap.of_hide e), Nat.le_of_eq (Heap.hide_size _ _)⟩ (fun q hq => ?_) BG (X₀.keeps st) (T.keeps st)
  obtain rfl := List.mem_singleton.mp hq
  exact ⟨hk₁ _ _ hD, Nat.ne_of_lt (Heap.lt_size hD), Heap.hide_self _ _⟩

theorem nameX_B {M : Model} {A : Around} {E : Value → Shared → Prop} {s : Shared} {h₀ : Heap} {L a c : Addr} {m : Str → Option Value} {cn : Str} {cs : Scope} {ccd : Value} {cl : List (Str × Addr)} {x : Str} {pos : Pos} {o : Obj} {v : Value} {Q : Value → Shared → Prop}
    (F : Fr h₀ L s.heap m) (hc : cl.lookup x = some c) (hv : h₀.get? c = some o) (hd : o.data = .cell (some v)) (h : Q v s)
    (hk : cs.kind = .function) (hx : (envX cn cs L a ccd cl).kindOf x = some .free) (hb : (x == ("__debug__" : Str)) = false := by decide) (hn : (x == ("__classdict__" : Str)) = false := by decide) :
    wpAny M A (eval (.Name x pos) (envX cn cs L a ccd cl)) Q E s := wpAny_Name (wpAny_loadName_free hk hx hc ⟨o, F.keep _ _ hv, hd⟩ h hn) hb

theorem code_pureX {prog : Program} {w : World} {A A₀ : Around} {s : Shared} {K : Frag} {L : Addr} {h₀ base : Heap} {m mg mb : Str → Option Value} {p : Program} {loose : List Str} {mean : ExcName → Option Value}
    {env : Env} {outer : List Env} {Q E : Value → Shared → Prop} {name qual : Str} {params : Arguments} {body : List Stmt} {scope : Scope} {cl : List (Str × Addr)} {dV kV doc pm cdv ct : Value} {an : Option Addr} {f : Addr} {fo : Obj} {args : Args} {binds : List (Str × Value)}
    (B : Below A₀ base outer h₀) (F : Fr h₀ L s.heap m) (X₀ : K.In h₀) (T : Top p loose mean mg mb h₀) (hA : A.frames = some (env :: outer)) (hf : env.frame = some L) (hke : env.scope.kind = .function)
    (ho : s.heap.get? f = some fo) (hd : fo.data = .func (fnX name qual params body scope cl dV kV doc pm an cdv ct)) (hcd : s.heap.CodeRec cdv qual) (hroom : A.depth < recursionLimit)
    (hbind : BindsTo s (fnX name qual params body scope cl dV kV doc pm an cdv ct) args binds) (hloc : ∀ y ∈ binds, scope.names.lookup y.1 = some .local)
    (h : ∀ g L' h₁, g = s.heap → Fr g L' h₁ (fun y => binds.reverse.lookup y) → News g L' h₁ [] → Below A base (env :: outer) g → K.In g → Top p loose mean mg mb g →
      wpAny (model prog w) (A.deeper (envX qual scope L' f cdv cl)) (execs body (envX qual scope L' f cdv cl))
        (fun fl s' => RetP Q (match fl with | .ret v => v | _ => .none) s')
        (fun e s' => wpAny (model prog w) (A.deeper (envX qual scope L' f cdv cl)) (leaving (envX qual scope L' f cdv cl) e) (fun _ s'' => E e s'') (fun e' s'' => E e' s'') s')
        { s with heap := h₁, toks := s.toks + binds.length })
    (hcell : ∀ x ∈ scope.names, x.2 ≠ .cell) (hco : scope.isCoroutine = false) (hgen : scope.isGenerator = false) (hk : scope.kind = .function) :
    codeAny (model prog w) A (.call (.ref f) args) (fun r s' => match r with | .ok (.ret v) => Q v s' | .ok _ => False | .error e => E e s') s := by
  obtain ⟨_, BG, _, _⟩ := groundX (R := fun _ _ => True) B F News.nil hA hf hke
  refine codeAny_call_def (fd := fnX name qual params body scope cl dV kV doc pm an cdv ct) (body := body) (binds := binds) hroom ho hd (T.nolimit.keeps F.keep) hcd rfl hbind hcell hloc (fun h₁ hns hk₁ => ?_) hco hgen hk
  exact h s.heap s.heap.objs.size h₁ rfl ⟨hns, hk₁, Nat.le_refl _⟩ News.nil BG (X₀.keeps F.keep) (T.keeps F.keep)
end Mine

-- P0
open PySem PySem.W PyProof.Rows PyProof
set_option Elab.async false
set_option maxRecDepth 100000
namespace Mine
noncomputable abbrev tl (x : Str) : List Nat := x.cps.toList
theorem tl_len (x : Str) : (tl x).length = x.length := by simp [tl, Str.length]
theorem tl_ext {x y : Str} (h : tl x = tl y) : x = y := by
  obtain ⟨a⟩ := x; obtain ⟨b⟩ := y
  simp only [tl] at h; exact congrArg Str.mk (Array.toList_inj.mp h)

theorem sl_from {x : Str} {i : Int} (h0 : 0 ≤ i) (h1 : i ≤ x.length) : tl (Txt.slice x (some i) none) = (tl x).drop i.toNat := by
  rw [slice_from_eq h0 h1 rfl]
  simp only [tl]
  rw [List.take_of_length_le]
  simp only [List.length_drop, Array.length_toList]
  simp only [Str.length] at h1 ⊢
  omega
theorem sl_nn (x : Str) : Txt.slice x none none = x := by
  unfold Txt.slice
  split
  · rfl
  · rename_i h
    refine absurd ?_ h
    unfold Builtin.Str.strSliceIndices sliceRange
    simp
    split <;> omega
theorem sl_neg {x : Str} {k : Int} (h0 : 0 < k) (h1 : k ≤ x.length) : Txt.slice x none (some (-k)) = Txt.slice x none (some (x.length - k)) := by
  have e : Builtin.Str.strSliceIndices none (some (-k)) 1 x.length = Builtin.Str.strSliceIndices none (some (x.length - k)) 1 x.length := by
    have h2 : -k < 0 := by omega
    have h3 : ¬ ((x.length : Int) - k < 0) := by omega
    have h4 : -k + (x.length : Int) = x.length - k := by omega
    simp only [Builtin.Str.strSliceIndices, h2, h3, h4, if_true, if_false]
  unfold Txt.slice
  rw [e]
theorem sl_to {x : Str} {j : Int} (h0 : 0 ≤ j) (h1 : j ≤ x.length) : tl (Txt.slice x none (some j)) = (tl x).take j.toNat := by
  have := beq_iff_eq.mp (slice_closes_to (x := x) (j := j) ⟨h0, by simpa [Str.length] using h1⟩)
  rw [this]
  simp [tl]
theorem sl_to_neg {x : Str} {k : Int} (h0 : 0 < k) (h1 : k ≤ x.length) : tl (Txt.slice x none (some (-k))) = (tl x).take (x.length - k.toNat) := by
  rw [sl_neg h0 h1, sl_to (by omega) (by omega)]
  congr 1; omega
theorem it_eq {x : Str} {i : Int} (h0 : 0 ≤ i) (h1 : i < x.length) : Txt.item x i = ⟨#[(tl x).getD i.toNat 0]⟩ := by
  rw [item_meets ⟨h0, h1⟩]
  simp [tl, Array.getD_eq_getD_getElem?, List.getD_eq_getElem?_getD]
theorem it_neg {x : Str} {i : Int} (h0 : i < 0) (h1 : -(x.length : Int) ≤ i) : Txt.item x i = ⟨#[(tl x).getD (i + x.length).toNat 0]⟩ := by
  have := beq_iff_eq.mp (item_closes_neg h0 h1 rfl)
  rw [this]
  simp [tl, Array.getD_eq_getD_getElem?, List.getD_eq_getElem?_getD]

/-- the length of the common beginning -/
noncomputable def cp : List Nat → List Nat → Nat
  | a :: r, b :: q => if a = b then cp r q + 1 else 0
  | _, _ => 0
theorem cp_le_left : ∀ a b, cp a b ≤ a.length
  | [], _ => Nat.zero_le _
  | _ :: _, [] => Nat.zero_le _
  | a :: r, b :: q => by
    unfold cp; split
    · have := cp_le_left r q; simp only [List.length_cons]; omega
    · exact Nat.zero_le _
theorem cp_comm : ∀ a b, cp a b = cp b a
  | [], [] => rfl
  | [], _ :: _ => rfl
  | _ :: _, [] => rfl
  | a :: r, b :: q => by
    unfold cp; rw [cp_comm r q]
    by_cases h : a = b
    · subst h; rfl
    · rw [if_neg h, if_neg (Ne.symm h)]
theorem cp_le_right (a b : List Nat) : cp a b ≤ b.length := cp_comm a b ▸ cp_le_left b a
theorem one_inj {a b : Nat} (h : (⟨#[a]⟩ : Str) = ⟨#[b]⟩) : a = b := by simpa using h
theorem drop_cons {X : List Nat} {i : Nat} (h : i < X.length) : X.drop i = X.getD i 0 :: X.drop (i + 1) := by
  rw [List.drop_eq_getElem_cons h]; congr 1; simp [h]
theorem cp_turn {X Y : List Nat} {i n : Nat} (hx : i < X.length) (hy : i < Y.length) (e : X.getD i 0 = Y.getD i 0) (h : i + cp (X.drop i) (Y.drop i) = n) : i + 1 + cp (X.drop (i + 1)) (Y.drop (i + 1)) = n := by
  rw [drop_cons hx, drop_cons hy] at h
  unfold cp at h; rw [if_pos e] at h; omega
theorem cp_end {X Y : List Nat} {i n : Nat} (hx : i < X.length) (hy : i < Y.length) (e : X.getD i 0 ≠ Y.getD i 0) (h : i + cp (X.drop i) (Y.drop i) = n) : i = n := by
  rw [drop_cons hx, drop_cons hy] at h
  unfold cp at h; rw [if_neg e] at h; omega
theorem cp_endx {X Y : List Nat} {i n : Nat} (hx : i = X.length) (h : i + cp (X.drop i) (Y.drop i) = n) : i = n := by
  rw [hx, List.drop_length] at h; simp only [cp] at h; omega
theorem cp_endy {X Y : List Nat} {i n : Nat} (hy : i = Y.length) (h : i + cp (X.drop i) (Y.drop i) = n) : i = n := by
  rw [cp_comm] at h; exact cp_endx hy h
theorem getD_rev {X : List Nat} {i : Nat} (h : i < X.length) : X.reverse.getD i 0 = X.getD (X.length - 1 - i) 0 := by
  simp [List.getD_eq_getElem?_getD, List.getElem?_reverse h]

/-- the word of the first loop -/
noncomputable def PreW (x y : Str) (i : Int) : Prop := 0 ≤ i ∧ i ≤ x.length ∧ i ≤ y.length ∧ i.toNat + cp ((tl x).drop i.toNat) ((tl y).drop i.toNat) = cp (tl x) (tl y)
theorem PreW.start (x y : Str) : PreW x y 0 := ⟨by omega, by omega, by omega, by simp⟩
theorem PreW.turn {x y : Str} {i : Int} (h : PreW x y i) (hx : i < x.length) (hy : i < y.length) (e : (Txt.item x i == Txt.item y i) = true) : PreW x y (i + 1) := by
  obtain ⟨h0, h1, h2, h3⟩ := h
  rw [beq_iff_eq, it_eq h0 hx, it_eq h0 hy] at e
  refine ⟨by omega, by omega, by omega, ?_⟩
  rw [show (i + 1).toNat = i.toNat + 1 by omega]
  exact cp_turn (by rw [tl_len]; omega) (by rw [tl_len]; omega) (one_inj e) h3
theorem PreW.stop {x y : Str} {i : Int} (h : PreW x y i) (hx : i < x.length) (hy : i < y.length) (e : (Txt.item x i == Txt.item y i) = false) : i = (cp (tl x) (tl y) : Nat) := by
  obtain ⟨h0, h1, h2, h3⟩ := h
  rw [beq_eq_false_iff_ne, it_eq h0 hx, it_eq h0 hy] at e
  have := cp_end (by rw [tl_len]; omega) (by rw [tl_len]; omega) (fun q => e (by rw [q])) h3
  omega
theorem PreW.stopx {x y : Str} {i : Int} (h : PreW x y i) (hx : i = x.length) : i = (cp (tl x) (tl y) : Nat) := by
  obtain ⟨h0, h1, h2, h3⟩ := h
  have := cp_endx (by rw [tl_len]; omega) h3
  omega
theorem PreW.stopy {x y : Str} {i : Int} (h : PreW x y i) (hy : i = y.length) : i = (cp (tl x) (tl y) : Nat) := by
  obtain ⟨h0, h1, h2, h3⟩ := h
  have := cp_endy (by rw [tl_len]; omega) h3
  omega

/-- the word of the second loop: post is -k -/
noncomputable def SufW (x y : Str) (i : Int) : Prop := i ≤ 0 ∧ -i ≤ x.length ∧ -i ≤ y.length ∧ (-i).toNat + cp ((tl x).reverse.drop (-i).toNat) ((tl y).reverse.drop (-i).toNat) = cp (tl x).reverse (tl y).reverse
theorem SufW.start (x y : Str) : SufW x y 0 := ⟨by omega, by omega, by omega, by simp⟩
theorem suf_item {x : Str} {i : Int} (h0 : i ≤ 0) (hx : -i < x.length) : Txt.item x (i - 1) = ⟨#[(tl x).reverse.getD (-i).toNat 0]⟩ := by
  rw [it_neg (by omega) (by omega), getD_rev (by rw [tl_len]; omega), tl_len]
  congr 4; omega
theorem SufW.turn {x y : Str} {i : Int} (h : SufW x y i) (hx : -i < x.length) (hy : -i < y.length) (e : (Txt.item x (i - 1) == Txt.item y (i - 1)) = true) : SufW x y (i - 1) := by
  obtain ⟨h0, h1, h2, h3⟩ := h
  rw [beq_iff_eq, suf_item h0 hx, suf_item h0 hy] at e
  refine ⟨by omega, by omega, by omega, ?_⟩
  rw [show (-(i - 1)).toNat = (-i).toNat + 1 by omega]
  exact cp_turn (by rw [List.length_reverse, tl_len]; omega) (by rw [List.length_reverse, tl_len]; omega) (one_inj e) h3
theorem SufW.stop {x y : Str} {i : Int} (h : SufW x y i) (hx : -i < x.length) (hy : -i < y.length) (e : (Txt.item x (i - 1) == Txt.item y (i - 1)) = false) : -i = (cp (tl x).reverse (tl y).reverse : Nat) := by
  obtain ⟨h0, h1, h2, h3⟩ := h
  rw [beq_eq_false_iff_ne, suf_item h0 hx, suf_item h0 hy] at e
  have := cp_end (by rw [List.length_reverse, tl_len]; omega) (by rw [List.length_reverse, tl_len]; omega) (fun q => e (by rw [q])) h3
  omega
theorem SufW.stopx {x y : Str} {i : Int} (h : SufW x y i) (hx : -i = x.length) : -i = (cp (tl x).reverse (tl y).reverse : Nat) := by
  obtain ⟨h0, h1, h2, h3⟩ := h
  have := cp_endx (by rw [List.length_reverse, tl_len]; omega) h3
  omega
theorem SufW.stopy {x y : Str} {i : Int} (h : SufW x y i) (hy : -i = y.length) : -i = (cp (tl x).reverse (tl y).reverse : Nat) := by
  obtain ⟨h0, h1, h2, h3⟩ := h
  have := cp_endy (by rw [List.length_reverse, tl_len]; omega) h3
  omega

theorem slen_neg {x : Str} {i : Int} (h0 : i ≤ 0) (h1 : -i ≤ x.length) : i ≠ 0 → ((Txt.slice x none (some i)).length : Int) = x.length + i := fun hn => by
  have := sl_to_neg (x := x) (k := -i) (by omega) (by omega)
  rw [Int.neg_neg] at this
  have e := congrArg List.length this
  rw [tl_len, List.length_take, tl_len] at e
  omega

theorem slice_all {prog : Program} {w : World} {A : Around} {E : Value → Shared → Prop} {s : Shared} {Q : Value → Shared → Prop} {h₀ : Heap} {L : Addr} {m : Str → Option Value} {news : List (Addr × Obj)} {x : Str} {t : Tok} {value slice : Expr}
    (hF : Fr h₀ L s.heap m) (hN : News h₀ L s.heap news) (h : ∀ h' t' k, Fr h₀ L h' m → News h₀ L h' news → Q (.str x t') { s with heap := h', toks := k })
    (hs : subscripted slice false (.str x t) (.ref s.heap.objs.size) = operate [.ref s.heap.objs.size, .str x t] (getItem (.str x t) (.ref s.heap.objs.size)) := by with_unfolding_all rfl)
    (ht : ∀ r, letTemporaryGo value (.str x t) r = pure () := by intro _; with_unfolding_all rfl) (hsz : x.length ≤ sizeLine := by size_fits) :
    wpAny (model prog w) A (subscriptTail value slice (.str x t) (.ref s.heap.objs.size)) Q E { s with heap := s.heap.push { cls := .type "slice", data := .fields #[.none, .none, .none] } } :=
  slice_strN_nn_len hF hN (fun h' t' k F N _ => by rw [sl_nn]; exact h h' t' k F N) hs ht hsz
end Mine

-- P1
open PySem PySem.W PyProof.Rows PyProof
set_option Elab.async false
set_option maxRecDepth 100000
set_option linter.unusedVariables false
namespace Mine
noncomputable def substF (x y : Str) : Int := if x = y then 0 else if Txt.lower x = Txt.lower y then 1 else 2
noncomputable def costN (c d : Nat) : Int := substF ⟨#[c]⟩ ⟨#[d]⟩
/-- min as the model tells it -/
noncomputable abbrev pmin (a b : Int) : Int := if b < a then b else a
noncomputable abbrev DSt := Int × Int × Int × List Int
noncomputable def inStep (c : Nat) (A : List Nat) (st : DSt) (i : Int) : DSt :=
  let d := st.2.2.2.getD i.toNat 0
  let r := pmin (pmin st.2.1 d + 2) (st.1 + costN c (A.getD i.toNat 0))
  (d, r, if r < st.2.2.1 then r else st.2.2.1, st.2.2.2.set i.toNat r)
noncomputable def upto (n : Nat) : List Int := rangeKs 0 n
noncomputable def inAll (c : Nat) (A : List Nat) (d : Int) (row : List Int) : DSt := (upto A.length).foldl (inStep c A) (d, d, 9223372036854775807, row)
noncomputable def outStep (A B : List Nat) (b : Int) (st : Option (Int × List Int)) (i : Int) : Option (Int × List Int) :=
  st.bind fun q => let o := inAll (B.getD i.toNat 0) A (i * 2) q.2; if o.2.2.1 > b then none else some (o.2.1, o.2.2.2)
noncomputable def row0 (n : Nat) : List Int := rangeInts 2 2 n
noncomputable def levCore (A B : List Nat) (b : Int) : Int := match (upto B.length).foldl (outStep A B b) (some (0, row0 A.length)) with
  | none => b + 1
  | some q => q.1
noncomputable def levG (A B : List Nat) (b : Int) : Int :=
  if A = [] ∨ B = [] then 2 * (A.length + B.length)
  else if B.length < A.length then (if (A.length - B.length : Int) * 2 > b then b + 1 else levCore B A b)
  else (if (B.length - A.length : Int) * 2 > b then b + 1 else levCore A B b)
noncomputable def levF (X Y : List Nat) (b : Int) : Int :=
  if X = Y then 0 else
  let p := cp X Y
  let A := X.drop p
  let B := Y.drop p
  let q := cp A.reverse B.reverse
  levG (A.take (A.length - q)) (B.take (B.length - q)) b

theorem it_one {x : Str} {i : Int} (h0 : 0 ≤ i) (h1 : i < x.length) : Txt.item x i = ⟨#[(tl x).getD i.toNat 0]⟩ := it_eq h0 h1
theorem costN_of {x y : Str} {i j : Int} (h0 : 0 ≤ i) (h1 : i < x.length) (h2 : 0 ≤ j) (h3 : j < y.length) : substF (Txt.item x i) (Txt.item y j) = costN ((tl x).getD i.toNat 0) ((tl y).getD j.toNat 0) := by
  rw [it_eq h0 h1, it_eq h2 h3]; rfl
theorem sl_opt {x : Str} {i : Int} {n : Nat} (h0 : i ≤ 0) (h1 : -i ≤ x.length) (hn : -i = (n : Int)) (hi : i ≠ 0) : tl (Txt.slice x none (some i)) = (tl x).take ((tl x).length - n) := by
  have := sl_to_neg (x := x) (k := -i) (by omega) (by omega)
  rw [Int.neg_neg] at this
  rw [this, tl_len]; congr 1; omega
theorem sl_opt0 {x : Str} {i : Int} {n : Nat} (hn : -i = (n : Int)) (hi : i = 0) : tl x = (tl x).take ((tl x).length - n) := by
  have : n = 0 := by omega
  subst this; rw [Nat.sub_zero, List.take_length]
theorem tl_nil {x : Str} (h : (x.length : Int) = 0) : tl x = [] := by
  have := tl_len x
  exact List.eq_nil_of_length_eq_zero (by omega)
theorem tl_ne {x : Str} (h : (x.length : Int) ≠ 0) : tl x ≠ [] := fun q => h (by have := tl_len x; rw [q] at this; simp at this; omega)

theorem ints_step {c : Int} : ∀ (us : List Value) (a : Int) (n : Nat), us.length = n → (∀ j v, us[j]? = some v → ∃ t, v = Value.int (a + (j : Nat) * c) t) → IntsAre us (rangeInts a c n)
  | [], _, _, rfl, _ => IntsAre.nil
  | v :: r, a, _, rfl, h => by
    obtain ⟨t, ht⟩ := h 0 v rfl
    have hv : v = Value.int a t := by rw [ht]; simp
    subst hv
    have e : rangeInts a c (r.length + 1) = a :: rangeInts (a + c) c r.length := by
      unfold rangeInts
      rw [List.range_succ_eq_map, List.map_cons, List.map_map]
      refine congr (congrArg _ (by simp)) (List.map_congr_left fun i _ => ?_)
      simp only [Function.comp, Nat.succ_eq_add_one, Int.natCast_add, Int.add_mul]
      omega
    show IntsAre _ (rangeInts a c (r.length + 1))
    rw [e]
    refine IntsAre.cons _ _ (ints_step r (a + c) r.length rfl fun j v hj => ?_)
    obtain ⟨t', ht'⟩ := h (j + 1) v hj
    refine ⟨t', ht'.trans ?_⟩
    congr 1
    rw [Int.natCast_add, Int.add_mul]; omega
theorem list_rangeC {prog : Program} {w : World} {A : Around} {E : Value → Shared → Prop} {s : Shared} {h₀ : Heap} {L r : Addr} {m : Str → Option Value} {news : List (Addr × Obj)} {a b c : Int} {t₀ u₀ v₀ : Tok} {n : Nat} {Q : Value → Shared → Prop}
    (hh : A.handled = none) (F : Fr h₀ L s.heap m) (N : News h₀ L s.heap news) (hr : IsRange s.heap r a b c t₀ u₀ v₀) (hsmall : Builtin.Range.small a b c = true) (hn : Builtin.Range.rangeSize a b c = (n : Int)) (hz : n ≤ 2 ^ 24)
    (h : ∀ D us c' h' tk, Fr h₀ L h' m → News h₀ L h' ((D, listOf (List.toArray us) c') :: news) → (∀ p ∈ news, p.1 < D) → IntsAre us (rangeInts a c n) → Q (.ref D) { s with heap := h', toks := tk }) :
    wpAny (model prog w) A (call (.type "list") [.ref r]) Q E s := by
  refine call_list_range hh hr hsmall hn hz fun h' tk acc c hk hD hI => ?_
  have hD' : h'.get? s.heap.objs.size = some (listOf (List.toArray acc.toList) c) := by
    rw [Array.toArray_toList]
    exact hD
  exact h _ acc.toList c h' tk (F.keeps hk) (news_pushed F N hk hD' rfl) (fun p hp => Heap.lt_size (N p hp).1) (ints_step _ _ _ (by rw [Array.length_toList]; exact hI.1) fun j v hj => hI.2 j v (by rw [← hj, Array.getElem?_toList]))
theorem size2 {n : Nat} (h : 0 < n) : Builtin.Range.rangeSize 2 (2 * ((n : Int) + 1)) 2 = (n : Int) := by
  unfold Builtin.Range.rangeSize
  rw [if_pos (by decide), if_pos (by omega)]; omega
theorem small2 {n : Nat} (h : 0 < n) (h1 : n ≤ 40) : Builtin.Range.small 2 (2 * ((n : Int) + 1)) 2 = true := by
  have : ∀ k : Fin 41, 0 < k.val → Builtin.Range.small 2 (2 * (((k.val : Nat) : Int) + 1)) 2 = true := by decide +kernel
  exact this ⟨n, by omega⟩ h

theorem levF_eq {x y a2 b2 : Str} {pre : Int} {b : Int} (hxy : (x == y) = false) (h0 : 0 ≤ pre) (h1 : pre ≤ x.length) (h2 : pre ≤ y.length) (h3 : pre = (cp (tl x) (tl y) : Nat))
    (ha : tl a2 = (tl (Txt.slice x (some pre) none)).take ((tl (Txt.slice x (some pre) none)).length - cp (tl (Txt.slice x (some pre) none)).reverse (tl (Txt.slice y (some pre) none)).reverse))
    (hb : tl b2 = (tl (Txt.slice y (some pre) none)).take ((tl (Txt.slice y (some pre) none)).length - cp (tl (Txt.slice x (some pre) none)).reverse (tl (Txt.slice y (some pre) none)).reverse)) :
    levF (tl x) (tl y) b = levG (tl a2) (tl b2) b := by
  rw [ha, hb, sl_from h0 h1, sl_from h0 h2, h3]
  unfold levF
  rw [if_neg fun q => by rw [beq_eq_false_iff_ne] at hxy; exact hxy (tl_ext q)]
  rfl
theorem levF_same {x y : Str} {b : Int} (h : (x == y) = true) : levF (tl x) (tl y) b = 0 := by
  rw [beq_iff_eq.mp h]; unfold levF; rw [if_pos rfl]
theorem levG_nil {x y : Str} {b : Int} (h : (x.length : Int) = 0 ∨ (y.length : Int) = 0) : levG (tl x) (tl y) b = 2 * ((x.length : Int) + y.length) := by
  unfold levG
  rw [if_pos (h.imp tl_nil tl_nil), tl_len, tl_len]
theorem levG_swap {x y : Str} {b : Int} (hx : (x.length : Int) ≠ 0) (hy : (y.length : Int) ≠ 0) (h : (y.length : Int) < x.length) : levG (tl x) (tl y) b = if ((x.length : Int) - y.length) * 2 > b then b + 1 else levCore (tl y) (tl x) b := by
  unfold levG
  rw [if_neg (fun q => q.elim (tl_ne hx) (tl_ne hy)), if_pos (by rw [tl_len, tl_len]; omega), tl_len, tl_len]
theorem levG_stay {x y : Str} {b : Int} (hx : (x.length : Int) ≠ 0) (hy : (y.length : Int) ≠ 0) (h : ¬ (y.length : Int) < x.length) : levG (tl x) (tl y) b = if ((y.length : Int) - x.length) * 2 > b then b + 1 else levCore (tl x) (tl y) b := by
  unfold levG
  rw [if_neg (fun q => q.elim (tl_ne hx) (tl_ne hy)), if_neg (by rw [tl_len, tl_len]; omega), tl_len, tl_len]

theorem rangeKs_succ (n : Nat) : rangeKs 0 (n + 1) = rangeKs 0 n ++ [(n : Int)] := by
  simp [rangeKs, List.range_succ]
/-- the outer word -/
noncomputable def OutW (A B : List Nat) (b : Int) (n : Nat) (pre : List Int) (r : Int) (row : List Int) : Prop :=
  pre = rangeKs 0 pre.length ∧ pre.foldl (outStep A B b) (some (0, row0 n)) = some (r, row)
theorem OutW.start (A B : List Nat) (b : Int) (n : Nat) : OutW A B b n [] 0 (rangeInts 2 2 n) := ⟨rfl, rfl⟩
/-- the inner word -/
noncomputable def InW (A B : List Nat) (b : Int) (n : Nat) (opre : List Int) (k : Int) (pre : List Int) (d r mn : Int) (row : List Int) : Prop :=
  pre = rangeKs 0 pre.length ∧ ∃ q : Int × List Int, OutW A B b n opre q.1 q.2 ∧ pre.foldl (inStep (B.getD k.toNat 0) A) (k * 2, k * 2, 9223372036854775807, q.2) = (d, r, mn, row)
theorem InW.start {A B : List Nat} {b : Int} {n : Nat} {opre : List Int} {k r : Int} {row : List Int} (h : OutW A B b n opre r row) : InW A B b n opre k [] (k * 2) (k * 2) 9223372036854775807 row :=
  ⟨rfl, (r, row), h, rfl⟩
theorem pre_succ {pre : List Int} {i : Int} (h : pre = rangeKs 0 pre.length) (hi : i = 0 + (pre.length : Int)) : pre ++ [i] = rangeKs 0 (pre ++ [i]).length := by
  rw [List.length_append]
  show _ = rangeKs 0 (pre.length + 1)
  rw [rangeKs_succ, ← h, hi, Int.zero_add]
theorem InW.turn {A B : List Nat} {b : Int} {n : Nat} {opre : List Int} {k : Int} {pre : List Int} {d r mn : Int} {row : List Int} {i d' r' mn' : Int} {row' : List Int} (h : InW A B b n opre k pre d r mn row) (hi : i = 0 + (pre.length : Int))
    (hd : d' = row.getD i.toNat 0) (hr : r' = pmin (pmin r d' + 2) (d + costN (B.getD k.toNat 0) (A.getD i.toNat 0))) (hm : mn' = if r' < mn then r' else mn) (hw : row' = row.set i.toNat r') : InW A B b n opre k (pre ++ [i]) d' r' mn' row' := by
  obtain ⟨h0, q, h1, h2⟩ := h
  refine ⟨pre_succ h0 hi, q, h1, ?_⟩
  rw [List.foldl_append, h2, hw, hm, hr, hd]
  rfl
theorem InW.out {A B : List Nat} {b : Int} {n : Nat} {opre : List Int} {k : Int} {d r mn : Int} {row : List Int} {nn : Nat} (h : InW A B b n opre k (rangeKs 0 nn) d r mn row) (hnn : nn = A.length) (hk : k = 0 + (opre.length : Int)) (hm : ¬ b < mn) : OutW A B b n (opre ++ [k]) r row := by
  obtain ⟨_, q, ⟨h0, h1⟩, h2⟩ := h
  refine ⟨pre_succ h0 hk, ?_⟩
  rw [List.foldl_append, h1]
  subst hnn
  show (if (inAll (B.getD k.toNat 0) A (k * 2) q.2).2.2.1 > b then none else some ((inAll (B.getD k.toNat 0) A (k * 2) q.2).2.1, (inAll (B.getD k.toNat 0) A (k * 2) q.2).2.2.2)) = _
  unfold inAll upto
  rw [h2, if_neg (by simpa using hm)]
theorem out_none (A B : List Nat) (b : Int) : ∀ l : List Int, l.foldl (outStep A B b) none = none
  | [] => rfl
  | _ :: r => out_none A B b r
theorem rangeKs_add (m : Nat) : ∀ k, ∃ r, rangeKs 0 (m + k) = rangeKs 0 m ++ r
  | 0 => ⟨[], by simp⟩
  | k + 1 => by
    obtain ⟨r, hr⟩ := rangeKs_add m k
    exact ⟨r ++ [((m + k : Nat) : Int)], by rw [← Nat.add_assoc, rangeKs_succ, hr, List.append_assoc]⟩
theorem InW.exit {A B : List Nat} {b : Int} {opre : List Int} {k : Int} {d r mn : Int} {row : List Int} {nn : Nat} (h : InW A B b A.length opre k (rangeKs 0 nn) d r mn row) (hnn : nn = A.length) (hk : k = 0 + (opre.length : Int)) (hl : opre.length < B.length) (hm : b < mn) : levCore A B b = b + 1 := by
  obtain ⟨_, q, ⟨h0, h1⟩, h2⟩ := h
  have e : (opre ++ [k]).foldl (outStep A B b) (some (0, row0 A.length)) = none := by
    rw [List.foldl_append, h1]
    subst hnn
    show (if (inAll (B.getD k.toNat 0) A (k * 2) q.2).2.2.1 > b then none else some ((inAll (B.getD k.toNat 0) A (k * 2) q.2).2.1, (inAll (B.getD k.toNat 0) A (k * 2) q.2).2.2.2)) = _
    unfold inAll upto
    rw [h2, if_pos hm]
  have e2 := pre_succ h0 hk
  rw [List.length_append] at e2
  obtain ⟨rest, hr⟩ := rangeKs_add (opre.length + 1) (B.length - (opre.length + 1))
  rw [show opre.length + 1 + (B.length - (opre.length + 1)) = B.length by omega] at hr
  have e3 : opre ++ [k] = rangeKs 0 (opre.length + 1) := e2
  unfold levCore upto
  rw [hr, ← e3, List.foldl_append, e, out_none]
theorem OutW.done {A B : List Nat} {b : Int} {nn : Nat} {r : Int} {row : List Int} (h : OutW A B b A.length (rangeKs 0 nn) r row) (hnn : nn = B.length) : levCore A B b = r := by
  unfold levCore upto
  rw [← hnn, h.2]

theorem InW.turnLt {x y : Str} {b : Int} {n : Nat} {opre : List Int} {k : Int} {pre : List Int} {d r mn : Int} {row : List Int} {i : Int} (h : InW (tl x) (tl y) b n opre k pre d r mn row) (hi : i = 0 + (pre.length : Int)) (hix : i < x.length) (hk0 : 0 ≤ k) (hky : k < y.length)
    (hm : (if d + substF (Txt.item y k) (Txt.item x i) < (if row.getD i.toNat 0 < r then row.getD i.toNat 0 else r) + 2 then d + substF (Txt.item y k) (Txt.item x i) else (if row.getD i.toNat 0 < r then row.getD i.toNat 0 else r) + 2) < mn) :
    InW (tl x) (tl y) b n opre k (pre ++ [i]) (row.getD i.toNat 0) (if d + substF (Txt.item y k) (Txt.item x i) < (if row.getD i.toNat 0 < r then row.getD i.toNat 0 else r) + 2 then d + substF (Txt.item y k) (Txt.item x i) else (if row.getD i.toNat 0 < r then row.getD i.toNat 0 else r) + 2)
      (if d + substF (Txt.item y k) (Txt.item x i) < (if row.getD i.toNat 0 < r then row.getD i.toNat 0 else r) + 2 then d + substF (Txt.item y k) (Txt.item x i) else (if row.getD i.toNat 0 < r then row.getD i.toNat 0 else r) + 2)
      (row.set i.toNat (if d + substF (Txt.item y k) (Txt.item x i) < (if row.getD i.toNat 0 < r then row.getD i.toNat 0 else r) + 2 then d + substF (Txt.item y k) (Txt.item x i) else (if row.getD i.toNat 0 < r then row.getD i.toNat 0 else r) + 2)) := by
  have e := costN_of (x := y) (y := x) hk0 hky (show 0 ≤ i by omega) hix
  rw [e] at hm ⊢
  exact InW.turn h hi rfl rfl (if_pos hm).symm rfl
theorem InW.turnGe {x y : Str} {b : Int} {n : Nat} {opre : List Int} {k : Int} {pre : List Int} {d r mn : Int} {row : List Int} {i : Int} (h : InW (tl x) (tl y) b n opre k pre d r mn row) (hi : i = 0 + (pre.length : Int)) (hix : i < x.length) (hk0 : 0 ≤ k) (hky : k < y.length)
    (hm : ¬ (if d + substF (Txt.item y k) (Txt.item x i) < (if row.getD i.toNat 0 < r then row.getD i.toNat 0 else r) + 2 then d + substF (Txt.item y k) (Txt.item x i) else (if row.getD i.toNat 0 < r then row.getD i.toNat 0 else r) + 2) < mn) :
    InW (tl x) (tl y) b n opre k (pre ++ [i]) (row.getD i.toNat 0) (if d + substF (Txt.item y k) (Txt.item x i) < (if row.getD i.toNat 0 < r then row.getD i.toNat 0 else r) + 2 then d + substF (Txt.item y k) (Txt.item x i) else (if row.getD i.toNat 0 < r then row.getD i.toNat 0 else r) + 2)
      mn
      (row.set i.toNat (if d + substF (Txt.item y k) (Txt.item x i) < (if row.getD i.toNat 0 < r then row.getD i.toNat 0 else r) + 2 then d + substF (Txt.item y k) (Txt.item x i) else (if row.getD i.toNat 0 < r then row.getD i.toNat 0 else r) + 2)) := by
  have e := costN_of (x := y) (y := x) hk0 hky (show 0 ≤ i by omega) hix
  rw [e] at hm ⊢
  exact InW.turn h hi rfl rfl (if_neg hm).symm rfl
theorem InW.exitS {x y : Str} {b : Int} {opre : List Int} {k : Int} {d r mn : Int} {row : List Int} (h : InW (tl x) (tl y) b x.length opre k (rangeKs 0 ((x.length : Int) - 0).toNat) d r mn row) (hk : k = 0 + (opre.length : Int)) (hl : opre.length < ((y.length : Int) - 0).toNat) (hm : b < mn) : levCore (tl x) (tl y) b = b + 1 := by
  have hx := tl_len x
  have hy := tl_len y
  rw [← hx] at h
  exact InW.exit h (by omega) hk (by omega) hm
theorem InW.outS {x y : Str} {b : Int} {opre : List Int} {k : Int} {d r mn : Int} {row : List Int} (h : InW (tl x) (tl y) b x.length opre k (rangeKs 0 ((x.length : Int) - 0).toNat) d r mn row) (hk : k = 0 + (opre.length : Int)) (hm : ¬ b < mn) : OutW (tl x) (tl y) b x.length (opre ++ [k]) r row := by
  have hx := tl_len x
  exact InW.out h (by omega) hk hm
theorem OutW.doneS {x y : Str} {b : Int} {r : Int} {row : List Int} (h : OutW (tl x) (tl y) b x.length (rangeKs 0 ((y.length : Int) - 0).toNat) r row) : levCore (tl x) (tl y) b = r := by
  have hx := tl_len x
  have hy := tl_len y
  rw [← hx] at h
  exact OutW.done h (by omega)
end Mine

-- P2
open PySem PySem.W PyProof.Rows PyProof
set_option Elab.async false
set_option maxRecDepth 100000
set_option linter.unusedVariables false
namespace Mine
/-- what a 257's reader takes out of what stands behind the first quote -/
noncomputable def scan : List Nat → List Nat
  | [] => []
  | [c] => if c = 34 then [] else [c]
  | c :: d :: r => if c = 34 then (if d = 34 then 34 :: scan r else []) else c :: scan (d :: r)
termination_by l => l.length
theorem scan_other {c : Nat} {r : List Nat} (h : c ≠ 34) : scan (c :: r) = c :: scan r := by
  cases r with
  | nil => simp [scan, h]
  | cons d r => rw [scan, if_neg h]
noncomputable def st (l : List Nat) : Str := ⟨l.toArray⟩
theorem tl_st (l : List Nat) : tl (st l) = l := by simp [tl, st]
theorem st_tl (x : Str) : st (tl x) = x := tl_ext (tl_st _)
theorem tl_app (x y : Str) : tl (x ++ y) = tl x ++ tl y := by simp [tl, Str.cps_append]
noncomputable def q34 : Str := Str.ofString "\""
theorem q34_eq : Str.ofString "\"" = ⟨#[34]⟩ := by decide +kernel

/-- the loop's word -/
noncomputable def ScanW (x : Str) (i : Int) (d : Str) : Prop := tl d ++ scan ((tl x).drop i.toNat) = scan ((tl x).drop 5)
theorem ScanW.start (x : Str) : ScanW x 5 (Str.ofString "") := by
  have : tl (Str.ofString "") = [] := by decide +kernel
  unfold ScanW; rw [this]; rfl
theorem ScanW.other {x d : Str} {i : Int} (h : ScanW x i d) (h0 : 0 ≤ i) (h1 : i < x.length) (hc : (Txt.item x i == Str.ofString "\"") = false) : ScanW x (i + 1) (d ++ Txt.item x i) := by
  rw [beq_eq_false_iff_ne, q34_eq, it_eq h0 h1] at hc
  unfold ScanW at h ⊢
  rw [drop_cons (by rw [tl_len]; omega), scan_other (fun q => hc (by rw [q]))] at h
  rw [tl_app, it_eq h0 h1, show (i + 1).toNat = i.toNat + 1 by omega, ← h]
  simp [tl]
theorem ScanW.two {x d : Str} {i : Int} (h : ScanW x i d) (h0 : 0 ≤ i) (h1 : i + 1 < x.length) (hc : (Txt.item x i == Str.ofString "\"") = true) (hc' : (Txt.item x (i + 1) != Str.ofString "\"") = false) : ScanW x (i + 1 + 1) (d ++ Txt.item x i) := by
  rw [bne_eq_false_iff_eq, ← beq_iff_eq (α := Str)] at hc'
  rw [beq_iff_eq, q34_eq] at hc hc'
  rw [it_eq h0 (by omega)] at hc
  rw [it_eq (by omega) h1] at hc'
  have e1 := one_inj hc
  have e2 := one_inj hc'
  rw [show (i + 1).toNat = i.toNat + 1 by omega] at e2
  unfold ScanW at h ⊢
  rw [drop_cons (by rw [tl_len]; omega), drop_cons (i := i.toNat + 1) (by rw [tl_len]; omega), e1, e2, scan, if_pos rfl, if_pos rfl] at h
  rw [tl_app, it_eq h0 (by omega), e1, show (i + 1 + 1).toNat = i.toNat + 1 + 1 by omega, ← h]
  simp [tl]
theorem ScanW.stop {x d : Str} {i : Int} (h : ScanW x i d) (hi : ¬ i < (x.length : Int)) : d = st (scan ((tl x).drop 5)) := by
  unfold ScanW at h
  rw [List.drop_of_length_le (by rw [tl_len]; omega)] at h
  rw [← h, scan, List.append_nil, st_tl]
theorem ScanW.brkEnd {x d : Str} {i : Int} (h : ScanW x i d) (h0 : 0 ≤ i) (h1 : i < x.length) (h2 : (x.length : Int) ≤ i + 1) (hc : (Txt.item x i == Str.ofString "\"") = true) : d = st (scan ((tl x).drop 5)) := by
  rw [beq_iff_eq, q34_eq, it_eq h0 h1] at hc
  unfold ScanW at h
  rw [drop_cons (by rw [tl_len]; omega), one_inj hc, List.drop_of_length_le (by rw [tl_len]; omega)] at h
  rw [← h, scan, if_pos rfl, List.append_nil, st_tl]
theorem ScanW.brk {x d : Str} {i : Int} (h : ScanW x i d) (h0 : 0 ≤ i) (h1 : i + 1 < x.length) (hc : (Txt.item x i == Str.ofString "\"") = true) (hc' : (Txt.item x (i + 1) != Str.ofString "\"") = true) : d = st (scan ((tl x).drop 5)) := by
  rw [beq_iff_eq, q34_eq, it_eq h0 (by omega)] at hc
  rw [bne_iff_ne, q34_eq, it_eq (by omega) h1, show (i + 1).toNat = i.toNat + 1 by omega] at hc'
  unfold ScanW at h
  rw [drop_cons (by rw [tl_len]; omega), one_inj hc, drop_cons (i := i.toNat + 1) (by rw [tl_len]; omega), scan, if_pos rfl, if_neg (fun q => hc' (by rw [q]))] at h
  rw [← h, List.append_nil, st_tl]
theorem open257 {x : Str} (h : (tl x).take 5 = [50, 53, 55, 32, 34]) (hl : 5 ≤ x.length) : (Txt.slice x none (some 3) == Str.ofString "257") = true := by
  rw [beq_iff_eq]
  refine tl_ext ?_
  rw [sl_to (by omega) (by omega)]
  have e : (tl x).take 3 = ((tl x).take 5).take 3 := by rw [List.take_take]; rfl
  show (tl x).take 3 = _
  rw [e, h]; decide +kernel
theorem sl_mid {x : Str} {i j : Int} (h : 0 ≤ i ∧ i ≤ j ∧ j ≤ x.length) : tl (Txt.slice x (some i) (some j)) = ((tl x).drop i.toNat).take (j - i).toNat := by
  have := beq_iff_eq.mp (slice_closes (x := x) (i := i) (j := j) (by have := tl_len x; simp only [tl] at this; omega))
  rw [this]
theorem open257b {x : Str} (h : (tl x).take 5 = [50, 53, 55, 32, 34]) (hl : 5 ≤ x.length) : (Txt.slice x (some 3) (some 5) == Str.ofString " \"") = true := by
  rw [beq_iff_eq]
  refine tl_ext ?_
  rw [sl_mid (by omega)]
  have e : ((tl x).drop 3).take 2 = ((tl x).take 5).drop 3 := by rw [List.drop_take]
  show ((tl x).drop 3).take 2 = _
  rw [e, h]; decide +kernel

/-- a reply that a 229's reader takes, and its number -/
structure Good229 (x : Str) (n : Int) : Prop where
  len : x.length ≤ 1000
  head : (Txt.slice x none (some 3) == Str.ofString "229") = true
  left : Txt.find x (Str.ofString "(") = 4
  right : 9 ≤ Txt.find3 x (Str.ofString ")") (Txt.find x (Str.ofString "(") + 1) ∧ Txt.find3 x (Str.ofString ")") (Txt.find x (Str.ofString "(") + 1) < x.length
  marks : (Txt.item x (Txt.find x (Str.ofString "(") + 1) != Txt.item x (Txt.find3 x (Str.ofString ")") (Txt.find x (Str.ofString "(") + 1) - 1)) = false
  parts : ∃ a b c d e, Txt.split (Txt.slice x (some (Txt.find x (Str.ofString "(") + 1)) (some (Txt.find3 x (Str.ofString ")") (Txt.find x (Str.ofString "(") + 1)))) (Txt.item x (Txt.find x (Str.ofString "(") + 1)) = [a, b, c, d, e] ∧ PySem.intText? d = some n ∧ d.length ≤ 640
noncomputable def Tup2 (host : Str) (n : Int) (o : Obj) : Prop := ∃ t u, o = { cls := .type "tuple", data := .seq #[.str host t, .int n u] }

noncomputable def Tup2I (q r : Int) (o : Obj) : Prop := ∃ t u, o = { cls := .type "tuple", data := .seq #[.int q t, .int r u] }
theorem bits60 {x : Int} (h0 : 0 ≤ x) (h1 : x < 2 ^ 60) : (Builtin.Int.intBits x : Int) ≤ 60 := by
  have := (intBits_le_iff (m := 60) (x := x)).mpr (by omega)
  omega

theorem mul_one1 {prog : Program} {w : World} {A : Around} {E : Value → Shared → Prop} {s : Shared} {h₀ : Heap} {L l : Addr} {m : Str → Option Value} {news : List (Addr × Obj)} {v : Value} {k : Nat} {u : Tok} {Q : Value → Shared → Prop}
    (F : Fr h₀ L s.heap m) (N : News h₀ L s.heap news) (hl : s.heap.IsList l #[v]) (hk : k ≤ 256)
    (h : ∀ D h', Fr h₀ L h' m → News h₀ L h' ((D, listOf (List.replicate k v).toArray 0) :: news) → (∀ p ∈ news, p.1 < D) → Q (.ref D) { s with heap := h' }) :
    wpAny (model prog w) A (binaryOp .Mult (.ref l) (.int (k : Int) u)) Q E s :=
  KMa.mul (vs := [v]) F N hl (by omega) (by omega) (by simp; omega) (by simp [List.flatten_replicate_singleton]) h
end Mine

-- P3
open PySem PySem.W PyProof.Rows PyProof
set_option Elab.async false
set_option maxRecDepth 100000
set_option linter.unusedVariables false
namespace Mine
/-- k digits of x to the base 2 ^ n, the lowest first -/
noncomputable def dg (n : Nat) : Nat → Nat → List Int
  | _, 0 => []
  | x, k + 1 => ((x % 2 ^ n : Nat) : Int) :: dg n (x / 2 ^ n) k
theorem dg_len (n : Nat) : ∀ (k : Nat) (x : Nat), (dg n x k).length = k
  | 0, _ => rfl
  | k + 1, x => by simp [dg, dg_len n k]
theorem dg_one {n x : Nat} (h1 : x < 2 ^ n) : dg n x 1 = [(x : Int)] := by
  simp only [dg, Nat.mod_eq_of_lt h1]
theorem dg_split (n : Nat) : ∀ (i j : Nat) (x : Nat), dg n x (i + j) = dg n (x % 2 ^ (n * i)) i ++ dg n (x / 2 ^ (n * i)) j
  | 0, j, x => by simp [dg]
  | i + 1, j, x => by
    have e : i + 1 + j = (i + j) + 1 := by omega
    have hp : 2 ^ (n * (i + 1)) = 2 ^ n * 2 ^ (n * i) := by rw [Nat.mul_add, Nat.mul_one, Nat.add_comm, Nat.pow_add]
    rw [e]
    show ((x % 2 ^ n : Nat) : Int) :: dg n (x / 2 ^ n) (i + j) = (((x % 2 ^ (n * (i + 1)) % 2 ^ n : Nat) : Int) :: dg n (x % 2 ^ (n * (i + 1)) / 2 ^ n) i) ++ _
    rw [dg_split n i j, hp, Nat.mod_mul_right_mod, Nat.mod_mul_right_div_self, Nat.div_div_eq_div_mul, List.cons_append]
theorem and_high (x s : Nat) : x &&& (x / 2 ^ s * 2 ^ s) = x / 2 ^ s * 2 ^ s := by
  apply Nat.eq_of_testBit_eq
  intro i
  rw [Nat.testBit_and, Nat.testBit_mul_two_pow, ← Nat.shiftRight_eq_div_pow, Nat.testBit_shiftRight]
  by_cases h : s ≤ i
  · simp [h, show s + (i - s) = i by omega]
  · simp [h]
theorem xor_low {x : Int} {s : Nat} (h0 : 0 ≤ x) : Builtin.bitXor x (x.fdiv (2 ^ s) * 2 ^ s) = ((x.toNat % 2 ^ s : Nat) : Int) := by
  obtain ⟨n, rfl⟩ : ∃ n : Nat, x = n := ⟨x.toNat, by omega⟩
  have e : ((n : Int).fdiv (2 ^ s)) * 2 ^ s = ((n / 2 ^ s * 2 ^ s : Nat) : Int) := by
    rw [Int.fdiv_eq_ediv_of_nonneg _ (Int.le_of_lt (Int.pow_pos (by decide)))]
    norm_cast
  rw [e, bitXor_and]
  have e2 : Builtin.bitAnd (n : Int) ((n / 2 ^ s * 2 ^ s : Nat) : Int) = ((n / 2 ^ s * 2 ^ s : Nat) : Int) := by
    unfold Builtin.bitAnd
    simp only [Int.natCast_nonneg, decide_true, Int.toNat_natCast, and_high]
  rw [e2, Int.toNat_natCast]
  have := Nat.div_add_mod n (2 ^ s)
  rw [Nat.mul_comm] at this
  omega
theorem shr_nat {x : Int} {s : Nat} (h0 : 0 ≤ x) : x.fdiv (2 ^ s) = ((x.toNat / 2 ^ s : Nat) : Int) := by
  obtain ⟨n, rfl⟩ : ∃ n : Nat, x = n := ⟨x.toNat, by omega⟩
  rw [Int.fdiv_eq_ediv_of_nonneg _ (Int.le_of_lt (Int.pow_pos (by decide)))]
  norm_cast
noncomputable def put (ds : List Int) (lo : Nat) (l : List Int) : List Int := ds.take lo ++ l ++ ds.drop (lo + l.length)
theorem put_len {ds l : List Int} {lo : Nat} (h : lo + l.length ≤ ds.length) : (put ds lo l).length = ds.length := by
  simp [put]; omega
theorem put_one {ds : List Int} {lo : Nat} {x : Int} (h : lo < ds.length) : ds.set lo x = put ds lo [x] := by
  unfold put
  rw [List.set_eq_take_append_cons_drop, if_pos h]
  simp
theorem put_put {ds a b : List Int} {lo mid : Nat} (h : lo + a.length = mid) (hl : mid + b.length ≤ ds.length) : put (put ds lo a) mid b = put ds lo (a ++ b) := by
  unfold put
  have e1 : (ds.take lo ++ a ++ ds.drop (lo + a.length)).take mid = ds.take lo ++ a := by
    rw [List.take_append_of_le_length (by simp; omega), List.take_of_length_le (by simp; omega)]
  have e2 : (ds.take lo ++ a ++ ds.drop (lo + a.length)).drop (mid + b.length) = ds.drop (lo + (a ++ b).length) := by
    rw [List.drop_append, List.drop_of_length_le (by simp; omega), List.nil_append, List.drop_drop]
    congr 1
    simp only [List.length_append, List.length_take]
    omega
  rw [e1, e2, List.append_assoc (ds.take lo)]

/-- digits read back -/
noncomputable def ud (n : Nat) : List Int → Int
  | [] => 0
  | d :: r => d + 2 ^ n * ud n r
theorem ud_append (n : Nat) : ∀ a b : List Int, ud n (a ++ b) = ud n a + 2 ^ (n * a.length) * ud n b
  | [], b => by simp [ud]
  | d :: r, b => by
    show d + 2 ^ n * ud n (r ++ b) = d + 2 ^ n * ud n r + 2 ^ (n * (r.length + 1)) * ud n b
    rw [ud_append n r b, Nat.mul_add, Nat.mul_one, Nat.add_comm (n * r.length) n, Int.pow_add, Int.mul_add, Int.mul_assoc, Int.add_assoc]
theorem ud_nonneg (n : Nat) : ∀ l : List Int, (∀ d ∈ l, 0 ≤ d) → 0 ≤ ud n l
  | [], _ => Int.le_refl _
  | d :: r, h => by
    have h1 := ud_nonneg n r fun x hx => h x (.tail _ hx)
    have h2 := h d (.head _)
    have h3 := Int.mul_nonneg (Int.le_of_lt (Int.pow_pos (n := 2) (m := n) (by decide))) h1
    show 0 ≤ d + 2 ^ n * ud n r
    omega
noncomputable def cutl (ds : List Int) (lo k : Nat) : List Int := (ds.drop lo).take k
theorem cutl_split (ds : List Int) (lo i j : Nat) : cutl ds lo (i + j) = cutl ds lo i ++ cutl ds (lo + i) j := by
  unfold cutl
  rw [List.take_add, List.drop_drop]
theorem cutl_len {ds : List Int} {lo k : Nat} (h : lo + k ≤ ds.length) : (cutl ds lo k).length = k := by
  unfold cutl; simp; omega
theorem cutl_one {ds : List Int} {lo : Nat} (h : lo < ds.length) : cutl ds lo 1 = [ds.getD lo 0] := by
  unfold cutl
  rw [List.drop_eq_getElem_cons h]
  show [ds[lo]] = _
  simp [h]
theorem cutl_mem {ds : List Int} {lo k : Nat} {d : Int} (h : d ∈ cutl ds lo k) : d ∈ ds := List.mem_of_mem_drop (List.mem_of_mem_take h)
theorem ud_split {n : Nat} {ds : List Int} {lo i j k : Nat} (hp : ∀ d ∈ ds, 0 ≤ d) (e : k = i + j) (hl : lo + k ≤ ds.length) :
    ud n (cutl ds lo k) = ud n (cutl ds lo i) + 2 ^ (n * i) * ud n (cutl ds (lo + i) j) ∧ 0 ≤ ud n (cutl ds lo i) ∧ 0 ≤ ud n (cutl ds (lo + i) j) ∧ ud n (cutl ds (lo + i) j) ≤ 2 ^ (n * i) * ud n (cutl ds (lo + i) j) := by
  subst e
  have h1 := ud_nonneg n (cutl ds lo i) fun d hd => hp d (cutl_mem hd)
  have h2 := ud_nonneg n (cutl ds (lo + i) j) fun d hd => hp d (cutl_mem hd)
  refine ⟨by rw [cutl_split, ud_append, cutl_len (by omega)], h1, h2, ?_⟩
  have h3 : (1 : Int) ≤ 2 ^ (n * i) := Int.pow_pos (by decide)
  have := Int.mul_le_mul_of_nonneg_right h3 h2
  omega
end Mine

-- P4
open PySem PySem.W PyProof.Rows PyProof
set_option Elab.async false
set_option maxRecDepth 100000
set_option linter.unusedVariables false
namespace Mine
/-- the division digit by digit; the lowest digit first -/
noncomputable def dm (n : Nat) (b : Int) : List Int → List Int × Int
  | [] => ([], 0)
  | d :: r => (((dm n b r).2 * 2 ^ n + d).fdiv b :: (dm n b r).1, ((dm n b r).2 * 2 ^ n + d).fmod b)
theorem dm_len (n : Nat) (b : Int) : ∀ l, (dm n b l).1.length = l.length
  | [] => rfl
  | d :: r => by simp [dm, dm_len n b r]
theorem dm_rest {n : Nat} {b : Int} (hb : 0 < b) : ∀ l, 0 ≤ (dm n b l).2 ∧ (dm n b l).2 < b
  | [] => ⟨Int.le_refl _, hb⟩
  | d :: r => by
    show 0 ≤ Int.fmod _ b ∧ Int.fmod _ b < b
    exact ⟨Int.fmod_nonneg_of_pos _ hb, Int.fmod_lt_of_pos _ hb⟩
theorem dm_eq {n : Nat} {b : Int} (hb : 0 < b) : ∀ l, ud n (dm n b l).1 * b + (dm n b l).2 = ud n l
  | [] => by simp [dm, ud]
  | d :: r => by
    have ih := dm_eq hb r (n := n)
    show (((dm n b r).2 * 2 ^ n + d).fdiv b + 2 ^ n * ud n (dm n b r).1) * b + ((dm n b r).2 * 2 ^ n + d).fmod b = d + 2 ^ n * ud n r
    have h := Int.mul_fdiv_add_fmod ((dm n b r).2 * 2 ^ n + d) b
    generalize ((dm n b r).2 * 2 ^ n + d).fdiv b = Q at *
    generalize ((dm n b r).2 * 2 ^ n + d).fmod b = R at *
    rw [← ih, Int.mul_add, Int.add_mul, Int.mul_comm (dm n b r).2 (2 ^ n)] at *
    rw [Int.mul_assoc]
    generalize 2 ^ n * (ud n (dm n b r).1 * b) = U at *
    generalize 2 ^ n * (dm n b r).2 = V at *
    rw [Int.mul_comm Q b]
    omega
theorem dm_nonneg {n : Nat} {b : Int} (hb : 0 < b) : ∀ l, (∀ d ∈ l, 0 ≤ d) → ∀ q ∈ (dm n b l).1, 0 ≤ q
  | [], _, q, hq => by cases hq
  | d :: r, h, q, hq => by
    have ih := dm_nonneg hb r (fun x hx => h x (.tail _ hx)) (n := n)
    have hr := (dm_rest (n := n) hb r).1
    rcases List.mem_cons.mp hq with rfl | hq
    · have h1 := h d (.head _)
      have h2 : (0 : Int) ≤ (dm n b r).2 * 2 ^ n := Int.mul_nonneg hr (Int.le_of_lt (Int.pow_pos (by decide)))
      exact Int.fdiv_nonneg (by omega) (by omega)
    · exact ih q hq
theorem dg_nonneg (n : Nat) : ∀ (k x : Nat), ∀ d ∈ dg n x k, 0 ≤ d ∧ d < 2 ^ n
  | 0, _, d, h => by cases h
  | k + 1, x, d, h => by
    rcases List.mem_cons.mp h with rfl | h
    · refine ⟨Int.natCast_nonneg _, ?_⟩
      have := Nat.mod_lt x (Nat.two_pow_pos n)
      exact_mod_cast this
    · exact dg_nonneg n k _ d h
theorem ud_dg (n : Nat) : ∀ (k x : Nat), x < 2 ^ (n * k) → ud n (dg n x k) = x
  | 0, x, h => by
    simp only [Nat.mul_zero, Nat.pow_zero] at h
    obtain rfl : x = 0 := by omega
    rfl
  | k + 1, x, h => by
    show ((x % 2 ^ n : Nat) : Int) + 2 ^ n * ud n (dg n (x / 2 ^ n) k) = x
    rw [ud_dg n k (x / 2 ^ n) (by rw [Nat.div_lt_iff_lt_mul (Nat.two_pow_pos _), ← Nat.pow_add]; rwa [Nat.mul_add, Nat.mul_one] at h)]
    have := Nat.mod_add_div x (2 ^ n)
    exact_mod_cast this
theorem dm_div {n k : Nat} {x b : Int} (hb : 0 < b) (h0 : 0 ≤ x) (hx : x < 2 ^ (n * k)) : ud n (dm n b (dg n x.toNat k)).1 = x.fdiv b ∧ (dm n b (dg n x.toNat k)).2 = x.fmod b := by
  have hx' : x.toNat < 2 ^ (n * k) := by
    have : ((x.toNat : Nat) : Int) < ((2 ^ (n * k) : Nat) : Int) := by rw [Int.toNat_of_nonneg h0]; exact_mod_cast hx
    exact_mod_cast this
  have e := dm_eq hb (dg n x.toNat k) (n := n)
  rw [ud_dg n k _ hx', Int.toNat_of_nonneg h0] at e
  have hr := dm_rest hb (dg n x.toNat k) (n := n)
  have h1 := Int.mul_fdiv_add_fmod x b
  have h2 := Int.fmod_nonneg_of_pos x hb
  have h3 := Int.fmod_lt_of_pos x hb
  generalize ud n (dm n b (dg n x.toNat k)).1 = Q at *
  generalize (dm n b (dg n x.toNat k)).2 = R at *
  have e2 : x = R + Q * b := by omega
  constructor
  · rw [e2, Int.add_mul_fdiv_right _ _ (by omega), Int.fdiv_eq_ediv_of_nonneg _ (by omega), Int.ediv_eq_zero_of_lt hr.1 hr.2, Int.zero_add]
  · rw [e2, Int.add_mul_fmod_self_right, Int.fmod_eq_emod_of_nonneg _ (by omega), Int.emod_eq_of_lt hr.1 hr.2]
end Mine

-- KRev
open PySem PySem.W PyProof.Rows
set_option Elab.async false
set_option maxRecDepth 100000
namespace Mine
theorem ints_rev {vs : List Value} {ns : List Int} (hi : IntsAre vs ns) {i : Nat} {v : Value} (h : vs[vs.length - 1 - i]? = some v) (hl : i < vs.length) : ∃ n t, v = .int n t ∧ ns.reverse[i]? = some n := by
  have e := hi.length
  have hlt : vs.length - 1 - i < ns.length := by omega
  obtain ⟨t, hx⟩ := hi.get (vs.length - 1 - i) ns[vs.length - 1 - i] (by simp [hlt])
  refine ⟨ns[vs.length - 1 - i], t, ?_, ?_⟩
  · rw [hx] at h; exact (Option.some.inj h).symm
  · rw [List.getElem?_reverse (by omega)]
    have e2 : ns.length - 1 - i = vs.length - 1 - i := by omega
    rw [e2]; simp [hlt]
theorem kst_rev {σ : Type} {prog : Program} {w : World} {A : Around} {E : Value → Shared → Prop} {s : Shared} {env : Env} {h₀ : Heap} {x : Str} {body : List Stmt} {Q : Flow → Shared → Prop} {l I : Addr} {vs : List Value} {ns : List Int} {m₀ : Str → Option Value}
    (Led : σ → List (Addr × Obj)) (ps : σ → List (Str × Value)) (Facts : σ → Prop) (stored : List Str) (P : List Int → σ → Prop) (c₀ : σ)
    (hh : A.handled = none) (hI : s.heap.get? I = some (revObj l ((vs.length : Int) - 1))) (hl : s.heap.IsList l vs.toArray) (hi : IntsAre vs ns) (hne : l ≠ I) (hI0 : h₀.get? I = none) (hIL : env.locals ≠ I) (hlL : env.locals ≠ l)
    (F : Fr h₀ env.locals s.heap m₀) (N : News h₀ env.locals s.heap (Led c₀)) (hoff : ∀ q ∈ Led c₀, q.1 ≠ I ∧ q.1 ≠ l) (hf : Facts c₀) (hk : ∀ p ∈ ps c₀, m₀ p.1 = some p.2) (hp : P [] c₀)
    (turn : ∀ (c : σ) (pre post : List Int) (k : Int) t (u : Str → Option Value) h tk own, ns.reverse = pre ++ k :: post → OwnOff own ((Led c₀).map (·.1)) → Facts c → P pre c →
      Fr h₀ env.locals h (fun y => if y = x then some (.int k t) else kstB (fun z => if stored.contains z then u z else m₀ z) (ps c) y) → News h₀ env.locals h (Led c ++ own) →
      wpAny (model prog w) A (execs body env) (InvPostN h₀ env.locals (KstS Led ps Facts x stored m₀ P (pre ++ [k])) own ((Led c₀).map (·.1)) { s with heap := h, toks := tk } Q) E { s with heap := h, toks := tk })
    (done : ∀ (c : σ) (u : Str → Option Value) h tk, Facts c → P ns.reverse c → Fr h₀ env.locals h (fun y => if y = x then u y else kstB (fun z => if stored.contains z then u z else m₀ z) (ps c) y) → News h₀ env.locals h (Led c) → Q .next { s with heap := h, toks := tk }) :
    wpAny (model prog w) A (pyIter (.ref I)) (fun it s₂ => LoopAtV prog w A h₀ env x body Q E it s₂) E s := by
  refine wpAny_pyIter_revIter (l := l) (i := (vs.length : Int) - 1) ⟨_, hI, rfl, rfl⟩ ?_
  have W := Walks.listRev (prog := prog) (w := w) hh I l hne vs.toArray
  have hsz : vs.toArray.size = ns.reverse.length := by simp [hi.length]
  refine loop_invN (fun i m nx => KstS Led ps Facts x stored m₀ P (ns.reverse.take i) m nx) W ?_ ?_ ?_ ?_ ?_ F N ⟨c₀, rfl, hf, hk, fun _ _ _ _ => rfl, by simpa using hp⟩ ?_ ?_
  · intro hm
    rcases List.mem_cons.mp hm with e | hm
    · exact hIL e
    · exact hlL (List.mem_singleton.mp hm)
  · intro b hb
    rw [List.mem_singleton.mp hb]
    exact hI0
  · intro p hp' hm
    exact (hoff p hp').1 (List.mem_singleton.mp hm)
  · intro p hp' hm
    rcases List.mem_cons.mp hm with e | hm
    · exact (hoff p hp').1 e
    · exact (hoff p hp').2 (List.mem_singleton.mp hm)
  · exact ⟨Nat.zero_le _, ⟨_, hI, rfl, by simp [revObj]⟩, hl⟩
  · rintro i v m₁ nx h tk own hlt hv _ hoff' ⟨c, rfl, hf', h1, h2, hp'⟩ F₁ N₁
    have hlt' : i < vs.length := by simpa using hlt
    obtain ⟨n, t, rfl, hn⟩ := ints_rev hi (by simpa using hv) hlt'
    have hs : ns.reverse.take (i + 1) = ns.reverse.take i ++ [n] := by rw [List.take_add_one, hn]; rfl
    have e : ns.reverse = ns.reverse.take i ++ n :: ns.reverse.drop (i + 1) := by
      have ht := List.take_append_drop (i + 1) ns.reverse
      rw [hs, List.append_assoc] at ht
      exact ht.symm
    rw [hs]
    exact turn c _ _ n t m₁ h tk own e hoff' hf' hp' (kst_fr h1 h2 F₁) N₁
  · rintro m₁ nx h tk ⟨c, rfl, hf', h1, h2, hp'⟩ F₁ N₁
    rw [hsz, List.take_length] at hp'
    exact done c m₁ h tk hf' hp' (kst_frOut h1 h2 F₁) N₁
end Mine

-- F1
open PySem PySem.W PyProof.Rows PyProof
set_option Elab.async false
set_option maxRecDepth 100000
set_option maxHeartbeats 8000000
set_option pp.deepTerms false
set_option pp.deepTerms.threshold 6
set_option rowWalk.seconds 0
namespace Mine
theorem subst_ok {w : World} {p : Program} {loose : List Str} {mean : ExcName → Option Value} {mg mb : Str → Option Value} (x y : Str) (tx ty : Tok) :
  Pure PySem.Challenge.rw_rs0157_02.prog w (hd2.heap_1 w.params) p loose mean mg mb 21 1 8 [.str x tx, .str y ty] (fun _ => x.length ≤ 1 ∧ y.length ≤ 1) (IsV fun t => .int (substF x y) t) := by
  k_fill
  k_with_none
  w_top off
  intro dp un gd cn cs a ccd cl outer A₀ base h₀ L m s Q E hB hF hX hT hcs hdp hun hpre hret
  refine wpAny_call ?_
  ((k_dflt (refine' code_pure ?k1 ?k2 ?k3 ?k5 ?kA ?kF ?kK ?k6 ?k7 ?k8 ?k9 ?kB ?_ ?c2 ?c3 ?c4 ?c5; (case kA => exact rfl); (case kF => exact rfl); (case kK => assumption); (case k1 => k_asm); (case k2 => k_asm); (case k3 => k_asm); (case k5 => k_asm); (case k6 => k_is); (case k7 => k_is); (case k8 => (show _ < _; dsimp only; omega)); (case k9 => exact BindsTo.of_eq rfl); (case c5 => decide); (case kB => exact locs rfl); (case c2 => exact rfl); (case c3 => exact rfl); (case c4 => exact rfl); k_whole)))
  intro g L' h₁ hg F' N' B' X' T'
  (try dsimp only); (try k_fold)
  k_steps
  all_goals refine hret _ _ _ (stays_of hg (by assumption)) (isV_int ?_)
  · rename (x == y) = true => e; unfold substF; rw [if_pos (beq_iff_eq.mp e)]
  · rename (x == y) = false => e; rename (Txt.lower x == Txt.lower y) = true => e2; unfold substF; rw [if_neg (beq_eq_false_iff_ne.mp e), if_pos (beq_iff_eq.mp e2)]
  · rename (x == y) = false => e; rename (Txt.lower x == Txt.lower y) = false => e2; unfold substF; rw [if_neg (beq_eq_false_iff_ne.mp e), if_neg (beq_eq_false_iff_ne.mp e2)]
end Mine

-- FLC
open PySem PySem.W PyProof.Rows PyProof
set_option Elab.async false
set_option maxRecDepth 100000
set_option maxHeartbeats 8000000
set_option pp.deepTerms false
set_option pp.deepTerms.threshold 6
set_option rowWalk.seconds 0
namespace Mine

noncomputable def fnScopeAt (P : Params) (f : Addr) : Scope := match (hd2.heap_1 P).lookup f with
  | some ⟨_, _, .func fd, _⟩ => fd.scope
  | _ => default
noncomputable def fnBodyAt (P : Params) (f : Addr) : List Stmt := match (hd2.heap_1 P).lookup f with
  | some ⟨_, _, .func fd, _⟩ => (match fd.body with | .stmts b => b | .expr _ => [])
  | _ => []
noncomputable abbrev levEnv (P : Params) (L : Addr) (cdv : Value) : Env := envOf (Str.ofString "_levenshtein_distance") (fnScopeAt P 28) L 28 cdv
theorem lev_core {w : World} {p : Program} {loose : List Str} {mean : ExcName → Option Value} {mg mb : Str → Option Value} {dp un : Nat} {gd : Option (List Code)} {cn : Str} {cs : Scope} {L a : Addr} {ccd cdv : Value} {cl : List (Str × Addr)} {outer : List Env} {base g : Heap} {L' : Addr} {s : Shared} {m₀ : Str → Option Value} {Q : Flow → Shared → Prop} {E : Value → Shared → Prop} {a3 b3 : Str} {b : Int} {ta tb3 tb : Tok}
    (B' : Below (ktrTop dp un gd cn cs L a ccd cl outer) base (envX cn cs L a ccd cl :: outer) g) (F' : Fr g L' s.heap (kstB m₀ [(Str.ofString "a", .str a3 ta), (Str.ofString "b", .str b3 tb3), (Str.ofString "max_cost", .int b tb)])) (N' : News g L' s.heap []) (X' : (hd2.heap_1 w.params).In g) (T' : Top p loose mean mg mb g)
    (hdp : dp + 3 < recursionLimit) (hun : un + 16 < cLine)
    (h1 : (a3.length : Int) ≤ b3.length) (h2 : b3.length ≤ 40) (h3 : 0 < a3.length)
    (hret : ∀ h' tk' m' t r, r = levCore (tl a3) (tl b3) b → Fr g L' h' m' → Q (.ret (.int r t)) { s with heap := h', toks := tk' }) :
    wpAny (model PySem.Challenge.rw_rs0157_02.prog w) ((ktrTop dp un gd cn cs L a ccd cl outer).deeper (levEnv w.params L' cdv)) (execs ((fnBodyAt w.params 28).drop 13) (levEnv w.params L' cdv)) Q
      (fun e s' => wpAny (model PySem.Challenge.rw_rs0157_02.prog w) ((ktrTop dp un gd cn cs L a ccd cl outer).deeper (levEnv w.params L' cdv)) (leaving (levEnv w.params L' cdv) e) (fun _ s'' => E e s'') (fun e' s'' => E e' s'') s') s := by
  revert X'
  k_fill
  intro X'
  k_with_none
  w_top off
  k_with "state" => first | exact ⟨rangeInts_length _ _ _, OutW.start _ _ _ _⟩ | exact ⟨by assumption, InW.start (by assumption)⟩ | exact ⟨(List.length_set ..).trans (by assumption), InW.turnLt (by assumption) (by assumption) (by omega) (by omega) (by omega) (by assumption)⟩ | exact ⟨(List.length_set ..).trans (by assumption), InW.turnGe (by assumption) (by assumption) (by omega) (by omega) (by omega) (by assumption)⟩ | exact ⟨by assumption, InW.outS (by assumption) (by assumption) (by assumption)⟩
  generalize hbody : (fnBodyAt w.params 28).drop 13 = body
  unfold levEnv
  generalize hscope : fnScopeAt w.params 28 = sc
  conv at hbody => lhs; whnf
  conv at hscope => lhs; whnf
  subst hbody hscope
  dsimp only [kstB] at F'
  (try dsimp only); (try k_fold)
  (repeat' ((fail_if_success (with_reducible show wpAny _ _ (pyIter _) _ _ _)); (fail_if_success (with_reducible show wpAny _ _ (PySem.call (Value.type "list") _) _ _ _)); first | (k_unfold; (try dsimp only)) | walk1 | (dsimp only; walk1) | (leave1; try dsimp only)))
  refine list_rangeC (n := a3.length) rfl (by assumption) (by assumption) (by assumption) (small2 (by omega) (by omega)) (size2 (by omega)) (by omega) ?_
  intro D us c' h' tk F' N' hlt hI
  clear hlt
  (repeat' ((fail_if_success (with_reducible show wpAny _ _ (pyIter _) _ _ _)); (fail_if_success (with_reducible show wpAny _ _ (PySem.call (Value.ref 21) _) _ _ _)); first | (k_unfold; (try dsimp only)) | walk1 | (dsimp only; walk1) | (leave1; try dsimp only)))
  k_state (fun pre result row => row.length = a3.length ∧ OutW (tl a3) (tl b3) b a3.length pre result row) "result" "row"
  · (repeat' ((fail_if_success (with_reducible show wpAny _ _ (pyIter _) _ _ _)); (fail_if_success (with_reducible show wpAny _ _ (PySem.call (Value.ref 21) _) _ _ _)); first | (k_unfold; (try dsimp only)) | walk1 | (dsimp only; walk1) | (leave1; try dsimp only)))
    k_state (fun pre d r mn row => row.length = a3.length ∧ InW (tl a3) (tl b3) b a3.length kPre kN pre d r mn row) "distance" "result" "minimum" "row"
    · (repeat' ((fail_if_success (with_reducible show wpAny _ _ (pyIter _) _ _ _)); (fail_if_success (with_reducible show wpAny _ _ (PySem.call (Value.ref 21) _) _ _ _)); first | (k_unfold; (try dsimp only)) | walk1 | (dsimp only; walk1) | (leave1; try dsimp only)))
      rename Fr g L' _ _ => FF
      rename News g L' _ _ => NN
      refine Pure.call (subst_ok _ _ _ _) B' FF X' T' NN rfl (by show _ < _; dsimp only; omega) (by show _ < _; dsimp only; omega) (by (try dsimp only); omega) ?_
      rintro v h6 tk6 st6 ⟨t6, rfl⟩ F6 N6
      clear st6 FF NN
      (repeat' ((fail_if_success (with_reducible show wpAny _ _ (pyIter _) _ _ _)); (fail_if_success (with_reducible show wpAny _ _ (PySem.call (Value.ref 21) _) _ _ _)); first | (k_unfold; (try dsimp only)) | walk1 | (dsimp only; walk1) | (leave1; try dsimp only)))
    · (repeat' ((fail_if_success (with_reducible show wpAny _ _ (pyIter _) _ _ _)); (fail_if_success (with_reducible show wpAny _ _ (PySem.call (Value.ref 21) _) _ _ _)); first | (k_unfold; (try dsimp only)) | walk1 | (dsimp only; walk1) | (leave1; try dsimp only)))
      all_goals (try exact hret _ _ _ _ _ (InW.exitS (by assumption) (by assumption) (by assumption) (by assumption)).symm (by assumption))
  · (repeat' ((fail_if_success (with_reducible show wpAny _ _ (pyIter _) _ _ _)); (fail_if_success (with_reducible show wpAny _ _ (PySem.call (Value.ref 21) _) _ _ _)); first | (k_unfold; (try dsimp only)) | walk1 | (dsimp only; walk1) | (leave1; try dsimp only)))
    exact hret _ _ _ _ _ (OutW.doneS (by assumption)).symm (by assumption)
end Mine

-- P12A
open PySem PySem.W PyProof.Rows PyProof
set_option Elab.async false
set_option maxRecDepth 100000
set_option linter.unusedVariables false
namespace Mine
/-- the rows of a table on the ledger -/
noncomputable def rowsLed : List Addr → List Nat → List (List Value) → List (Addr × Obj)
  | R :: Rs, k :: ks, u :: us => (R, listOf u.toArray k) :: rowsLed Rs ks us
  | _, _, _ => []
theorem rowsLed_mem : ∀ {Rs : List Addr} {ks : List Nat} {us : List (List Value)} {i : Nat}, i < Rs.length → ks.length = Rs.length → us.length = Rs.length → (Rs.getD i 0, listOf (us.getD i []).toArray (ks.getD i 0)) ∈ rowsLed Rs ks us
  | R :: Rs, k :: ks, u :: us, 0, _, _, _ => .head _
  | R :: Rs, k :: ks, u :: us, i + 1, h, h1, h2 => by
    simp only [List.length_cons] at h h1 h2
    exact .tail _ (rowsLed_mem (Rs := Rs) (by omega) (by omega) (by omega))
  | [], _, _, _, h, _, _ => absurd h (Nat.not_lt_zero _)
  | _ :: _, [], _, _, _, h, _ => by simp at h
  | _ :: _, _ :: _, [], _, _, _, h => by simp at h
section
variable {prog : Program} {w : World} {A : Around} {E : Value → Shared → Prop} {s : Shared} {g : Heap} {L : Addr} {m : Str → Option Value} {news : List (Addr × Obj)}
/-- a row of the table -/
theorem row_item {value slice : PySem.Expr} {TB : Addr} {Rs : List Addr} {kT : Nat} {k : Int} {u : Tok} {Q : Value → Shared → Prop}
    (N : News g L s.heap news) (hm : (TB, listOf (Rs.map Value.ref).toArray kT) ∈ news) (h0 : 0 ≤ k) (h1 : k < Rs.length) (hl : Rs.length ≤ 5) (h : Q (.ref (Rs.getD k.toNat 0)) s)
    (hs : subscripted slice false (.ref TB) (.int k u) = operate [.ref TB, .int k u] (getItem (.ref TB) (.int k u)) := by with_unfolding_all rfl) :
    wpAny (model prog w) A (subscriptTail value slice (.ref TB) (.int k u)) Q E s := by
  have hL : s.heap.IsList TB (Rs.map Value.ref).toArray := ⟨_, (N _ hm).1, rfl, _, rfl⟩
  refine tail_any hL.typeIs slot_list_getitem.lookup (wpAny_getItem_list hL h0 (by omega) ?_ h) hs
  have hk : k.toNat < Rs.length := by omega
  simp [List.getElem?_map, List.getD_eq_getElem?_getD, hk]
end
theorem Fr.kst {g h : Heap} {L : Addr} {m : Str → Option Value} (ps : List (Str × Value)) (F : Fr g L h m) (hp : ∀ p ∈ ps, m p.1 = some p.2) : Fr g L h (kstB m ps) := by
  have e : kstB m ps = m := by
    funext z
    exact kstB_eq hp fun _ => rfl
  rw [e]; exact F
end Mine

-- FL3
open PySem PySem.W PyProof.Rows PyProof
set_option Elab.async false
set_option maxRecDepth 100000
set_option maxHeartbeats 8000000
set_option pp.deepTerms false
set_option pp.deepTerms.threshold 6
set_option rowWalk.seconds 0
namespace Mine
local macro_rules | `(tactic| walk_at "subscriptTail Name Slice str ref") => `(tactic| ((with_reducible show wpAny _ _ (subscriptTail _ (Expr.Slice none (some (Expr.BoolOp _ _ _)) none _) _ _) _ _ _); (with_reducible rename Fr _ _ _ _ => F'); (with_reducible rename News _ _ _ _ => N'); refine slice_all (s := ⟨_, _, _, _, _⟩) F' N' ?_; intro _ _ _ _ _))
structure Room (dp un : Nat) : Prop where
  d : dp + 3 < recursionLimit
  u : un + 16 < cLine
theorem lev_tail {w : World} {p : Program} {loose : List Str} {mean : ExcName → Option Value} {mg mb : Str → Option Value} {dp un : Nat} {gd : Option (List Code)} {cn : Str} {cs : Scope} {L a : Addr} {ccd cdv : Value} {cl : List (Str × Addr)} {outer : List Env} {base g : Heap} {L' : Addr} {s : Shared} {m₀ : Str → Option Value} {Q : Flow → Shared → Prop} {E : Value → Shared → Prop} {a2 b2 : Str} {b : Int} {ta tb2 tb : Tok}
    (B' : Below (ktrTop dp un gd cn cs L a ccd cl outer) base (envX cn cs L a ccd cl :: outer) g) (F' : Fr g L' s.heap (kstB m₀ [(Str.ofString "a", .str a2 ta), (Str.ofString "b", .str b2 tb2), (Str.ofString "max_cost", .int b tb)])) (N' : News g L' s.heap []) (X' : (hd2.heap_1 w.params).In g) (T' : Top p loose mean mg mb g)
    (hroom : Room dp un)
    (hla : a2.length ≤ 40) (hlb : b2.length ≤ 40)
    (hret : ∀ h' tk' m' t r, r = levG (tl a2) (tl b2) b → Fr g L' h' m' → Q (.ret (.int r t)) { s with heap := h', toks := tk' }) :
    wpAny (model PySem.Challenge.rw_rs0157_02.prog w) ((ktrTop dp un gd cn cs L a ccd cl outer).deeper (levEnv w.params L' cdv)) (execs ((fnBodyAt w.params 28).drop 9) (levEnv w.params L' cdv)) Q
      (fun e s' => wpAny (model PySem.Challenge.rw_rs0157_02.prog w) ((ktrTop dp un gd cn cs L a ccd cl outer).deeper (levEnv w.params L' cdv)) (leaving (levEnv w.params L' cdv) e) (fun _ s'' => E e s'') (fun e' s'' => E e' s'') s') s := by
  revert X'
  k_fill
  intro X'
  k_with_none
  w_top off
  generalize hbody : (fnBodyAt w.params 28).drop 9 = body
  unfold levEnv
  generalize hscope : fnScopeAt w.params 28 = sc
  conv at hbody => lhs; whnf
  conv at hscope => lhs; whnf
  subst hbody hscope
  dsimp only [kstB] at F'
  (try dsimp only); (try k_fold)
  (repeat' ((fail_if_success (with_reducible show wpAny _ _ (execs (Stmt.If _ [Stmt.Assign _ _ _] _ _ :: _) _) _ _ _)); first | (k_unfold; (try dsimp only)) | walk1 | (dsimp only; walk1) | (leave1; try dsimp only)))
  · dsimp only
    refine cutF (σ := (Str × Nat) × (Str × Nat)) (fun _ => []) (fun c => [(Str.ofString "a", .str c.1.1 c.1.2), (Str.ofString "b", .str c.2.1 c.2.2)]) [] (fun c => (c.1.1.length : Int) ≤ c.2.1.length ∧ c.2.1.length ≤ 40 ∧ 0 < c.1.1.length ∧ levG (tl a2) (tl b2) b = (if ((c.2.1.length : Int) - c.1.1.length) * 2 > b then b + 1 else levCore (tl c.1.1) (tl c.2.1) b)) (by assumption) (by assumption) ?_ ?_
    · k_fold
      (repeat' ((fail_if_success (with_reducible show wpAny _ _ (execs (Stmt.Assign [PySem.Expr.Name (Str.ofString "row") _] _ _ :: _) _) _ _ _)); (fail_if_success (with_reducible show wpAny _ _ (execs (Stmt.While _ _ _ _ :: _) _) _ _ _)); (fail_if_success (with_reducible show wpAny _ _ (execs (Stmt.For _ _ _ _ _ :: _) _) _ _ _)); first | (k_unfold; (try dsimp only)) | walk1 | (dsimp only; walk1) | (leave1; try dsimp only)))
      · refine Hand.mk ((_, _), (_, _)) (by assumption) (by assumption) (fun _ h => List.Mem.tail _ h) (by kst_all) (by ksw_same) ?_
        exact ⟨by dsimp only; omega, by dsimp only; omega, by dsimp only; omega, levG_swap (by assumption) (by assumption) (by assumption)⟩
      · refine Hand.mk ((_, _), (_, _)) (by assumption) (by assumption) (fun _ h => h) (by kst_all) (by ksw_same) ?_
        exact ⟨by dsimp only; omega, by dsimp only; omega, by dsimp only; omega, levG_stay (by assumption) (by assumption) (by assumption)⟩
    · intro c u h tk hD3 F N
      obtain ⟨⟨a3, ta3⟩, ⟨b3, tb3⟩⟩ := c
      dsimp only [kstB] at F hD3
      obtain ⟨hr0, hr1, hr2, hr3⟩ := hD3
      (repeat' ((fail_if_success (with_reducible show wpAny _ _ (execs (Stmt.Assign [PySem.Expr.Name (Str.ofString "row") _] _ _ :: _) _) _ _ _)); (fail_if_success (with_reducible show wpAny _ _ (execs (Stmt.While _ _ _ _ :: _) _) _ _ _)); (fail_if_success (with_reducible show wpAny _ _ (execs (Stmt.For _ _ _ _ _ :: _) _) _ _ _)); first | (k_unfold; (try dsimp only)) | walk1 | (dsimp only; walk1) | (leave1; try dsimp only)))
      · exact hret _ _ _ _ _ (hr3.trans (if_pos (by omega))).symm (by assumption)
      · rw [if_neg (by omega)] at hr3
        rename Fr g L' _ _ => FF
        rename News g L' _ _ => NN
        refine lev_core (a3 := a3) (b3 := b3) (b := b) B' (Fr.kst _ FF (List.forall_mem_cons.mpr ⟨rfl, List.forall_mem_cons.mpr ⟨rfl, List.forall_mem_cons.mpr ⟨rfl, List.forall_mem_nil _⟩⟩⟩)) NN X' T' hroom.1 hroom.2 (by omega) (by omega) (by omega) ?_
        intro h' tk' m' t r hr F'
        exact hret _ _ _ _ _ (hr.trans hr3.symm) F'
  · exact hret _ _ _ _ _ (levG_nil (by omega)).symm (by assumption)
  · exact hret _ _ _ _ _ (levG_nil (by omega)).symm (by assumption)
theorem lev_suf {w : World} {p : Program} {loose : List Str} {mean : ExcName → Option Value} {mg mb : Str → Option Value} {dp un : Nat} {gd : Option (List Code)} {cn : Str} {cs : Scope} {L a : Addr} {ccd cdv : Value} {cl : List (Str × Addr)} {outer : List Env} {base g : Heap} {L' : Addr} {s : Shared} {m₀ : Str → Option Value} {Q : Flow → Shared → Prop} {E : Value → Shared → Prop} {A B : Str} {b : Int} {ta tb2 tb : Tok}
    (B' : Below (ktrTop dp un gd cn cs L a ccd cl outer) base (envX cn cs L a ccd cl :: outer) g) (F' : Fr g L' s.heap (kstB m₀ [(Str.ofString "a", .str A ta), (Str.ofString "b", .str B tb2), (Str.ofString "max_cost", .int b tb)])) (N' : News g L' s.heap []) (X' : (hd2.heap_1 w.params).In g) (T' : Top p loose mean mg mb g)
    (hroom : Room dp un)
    (hla : A.length ≤ 40) (hlb : B.length ≤ 40)
    (hret : ∀ h' tk' m' t r, r = levG ((tl A).take ((tl A).length - cp (tl A).reverse (tl B).reverse)) ((tl B).take ((tl B).length - cp (tl A).reverse (tl B).reverse)) b → Fr g L' h' m' → Q (.ret (.int r t)) { s with heap := h', toks := tk' }) :
    wpAny (model PySem.Challenge.rw_rs0157_02.prog w) ((ktrTop dp un gd cn cs L a ccd cl outer).deeper (levEnv w.params L' cdv)) (execs ((fnBodyAt w.params 28).drop 5) (levEnv w.params L' cdv)) Q
      (fun e s' => wpAny (model PySem.Challenge.rw_rs0157_02.prog w) ((ktrTop dp un gd cn cs L a ccd cl outer).deeper (levEnv w.params L' cdv)) (leaving (levEnv w.params L' cdv) e) (fun _ s'' => E e s'') (fun e' s'' => E e' s'') s') s := by
  revert X'
  k_fill
  intro X'
  k_with_none
  k_with "state" => first | exact ⟨by omega, by omega, by omega, slen_neg (by omega) (by omega), slen_neg (by omega) (by omega), SufW.start _ _⟩ | exact ⟨by omega, by omega, by omega, slen_neg (by omega) (by omega), slen_neg (by omega) (by omega), SufW.turn (by assumption) (by omega) (by omega) (by assumption)⟩
  generalize hbody : (fnBodyAt w.params 28).drop 5 = body
  unfold levEnv
  generalize hscope : fnScopeAt w.params 28 = sc
  conv at hbody => lhs; whnf
  conv at hscope => lhs; whnf
  subst hbody hscope
  dsimp only [kstB] at F'
  (try dsimp only); (try k_fold)
  (repeat' ((fail_if_success (with_reducible show wpAny _ _ (execs (Stmt.Assign [PySem.Expr.Name (Str.ofString "row") _] _ _ :: _) _) _ _ _)); (fail_if_success (with_reducible show wpAny _ _ (execs (Stmt.While _ _ _ _ :: _) _) _ _ _)); (fail_if_success (with_reducible show wpAny _ _ (execs (Stmt.For _ _ _ _ _ :: _) _) _ _ _)); first | (k_unfold; (try dsimp only)) | walk1 | (dsimp only; walk1) | (leave1; try dsimp only)))
  refine cutF (σ := Int × Nat) (fun _ => []) (fun c => [(Str.ofString "post", .int c.1 c.2)]) [] (fun c => c.1 ≤ 0 ∧ -c.1 ≤ A.length ∧ -c.1 ≤ B.length ∧ -c.1 = (cp (tl A).reverse (tl B).reverse : Nat)) (by assumption) (by assumption) ?_ ?_
  · k_fold
    k_while (fun _ i => i ≤ 0 ∧ -i ≤ A.length ∧ -i ≤ B.length ∧ (i ≠ 0 → ((Txt.slice A none (some i)).length : Int) = A.length + i) ∧ (i ≠ 0 → ((Txt.slice B none (some i)).length : Int) = B.length + i) ∧ SufW A B i) (fun _ i => A.length - (-i).toNat) "post"
    (repeat' ((fail_if_success (with_reducible show wpAny _ _ (execs (Stmt.Assign [PySem.Expr.Name (Str.ofString "row") _] _ _ :: _) _) _ _ _)); (fail_if_success (with_reducible show wpAny _ _ (execs (Stmt.While _ _ _ _ :: _) _) _ _ _)); (fail_if_success (with_reducible show wpAny _ _ (execs (Stmt.For _ _ _ _ _ :: _) _) _ _ _)); first | (k_unfold; (try dsimp only)) | walk1 | (dsimp only; walk1) | (leave1; try dsimp only)))
    all_goals (try (((refine Hand.mk (_, _) (by assumption) (by assumption) (fun _ h => h) (by kst_all) (by ksw_same) ?_; (try dsimp only))); refine ⟨by omega, by omega, by omega, ?_⟩; first | exact SufW.stop (by assumption) (by omega) (by omega) (by assumption) | exact SufW.stopx (by assumption) (by omega) | exact SufW.stopy (by assumption) (by omega)))
  · intro c u h tk hD F N
    obtain ⟨post, tpost⟩ := c
    dsimp only [kstB] at F hD
    obtain ⟨hq0, hq1, hq2, hq3⟩ := hD
    refine cutF (σ := Str × Nat) (fun _ => []) (fun c => [(Str.ofString "a", .str c.1 c.2)]) [] (fun c => c.1.length ≤ 40 ∧ tl c.1 = (tl A).take ((tl A).length - cp (tl A).reverse (tl B).reverse)) (by assumption) (by assumption) ?_ ?_
    · k_fold
      (repeat' ((fail_if_success (with_reducible show wpAny _ _ (execs (Stmt.Assign [PySem.Expr.Name (Str.ofString "row") _] _ _ :: _) _) _ _ _)); (fail_if_success (with_reducible show wpAny _ _ (execs (Stmt.While _ _ _ _ :: _) _) _ _ _)); (fail_if_success (with_reducible show wpAny _ _ (execs (Stmt.For _ _ _ _ _ :: _) _) _ _ _)); first | (k_unfold; (try dsimp only)) | walk1 | (dsimp only; walk1) | (leave1; try dsimp only)))
      all_goals (((refine Hand.mk (_, _) (by assumption) (by assumption) (fun _ h => h) (by kst_all) (by ksw_same) ?_; (try dsimp only))); refine ⟨by omega, ?_⟩; first | exact sl_opt (by omega) (by omega) (by omega) (by omega) | exact sl_opt0 (by omega) (by omega))
    · intro c u h tk hD F N
      obtain ⟨a2, ta2⟩ := c
      dsimp only [kstB] at F hD
      refine cutF (σ := Str × Nat) (fun _ => []) (fun c => [(Str.ofString "b", .str c.1 c.2)]) [] (fun c => c.1.length ≤ 40 ∧ tl c.1 = (tl B).take ((tl B).length - cp (tl A).reverse (tl B).reverse)) (by assumption) (by assumption) ?_ ?_
      · k_fold
        (repeat' ((fail_if_success (with_reducible show wpAny _ _ (execs (Stmt.Assign [PySem.Expr.Name (Str.ofString "row") _] _ _ :: _) _) _ _ _)); (fail_if_success (with_reducible show wpAny _ _ (execs (Stmt.While _ _ _ _ :: _) _) _ _ _)); (fail_if_success (with_reducible show wpAny _ _ (execs (Stmt.For _ _ _ _ _ :: _) _) _ _ _)); first | (k_unfold; (try dsimp only)) | walk1 | (dsimp only; walk1) | (leave1; try dsimp only)))
        all_goals (((refine Hand.mk (_, _) (by assumption) (by assumption) (fun _ h => h) (by kst_all) (by ksw_same) ?_; (try dsimp only))); refine ⟨by omega, ?_⟩; first | exact sl_opt (by omega) (by omega) (by omega) (by omega) | exact sl_opt0 (by omega) (by omega))
      · intro c u h tk hD2 F N
        obtain ⟨b2, tb2⟩ := c
        dsimp only [kstB] at F hD2
        obtain ⟨hla, hD⟩ := hD
        obtain ⟨hlb, hD2⟩ := hD2
        rename Fr g L' _ _ => FF
        rename News g L' _ _ => NN
        refine lev_tail (a2 := a2) (b2 := b2) (b := b) B' (Fr.kst _ FF (List.forall_mem_cons.mpr ⟨rfl, List.forall_mem_cons.mpr ⟨rfl, List.forall_mem_cons.mpr ⟨rfl, List.forall_mem_nil _⟩⟩⟩)) NN X' T' hroom hla hlb ?_
        rw [hD, hD2]
        exact hret
theorem levF_cut {x y : Str} {pre : Int} {b : Int} (hxy : (x == y) = false) (h0 : 0 ≤ pre) (h1 : pre ≤ x.length) (h2 : pre ≤ y.length) (h3 : pre = (cp (tl x) (tl y) : Nat)) :
    levF (tl x) (tl y) b = levG ((tl (Txt.slice x (some pre) none)).take ((tl (Txt.slice x (some pre) none)).length - cp (tl (Txt.slice x (some pre) none)).reverse (tl (Txt.slice y (some pre) none)).reverse)) ((tl (Txt.slice y (some pre) none)).take ((tl (Txt.slice y (some pre) none)).length - cp (tl (Txt.slice x (some pre) none)).reverse (tl (Txt.slice y (some pre) none)).reverse)) b := by
  have tt : ∀ l : List Nat, tl (⟨l.toArray⟩ : Str) = l := fun l => by simp [tl]
  have := levF_eq (a2 := ⟨((tl (Txt.slice x (some pre) none)).take ((tl (Txt.slice x (some pre) none)).length - cp (tl (Txt.slice x (some pre) none)).reverse (tl (Txt.slice y (some pre) none)).reverse)).toArray⟩) (b2 := ⟨((tl (Txt.slice y (some pre) none)).take ((tl (Txt.slice y (some pre) none)).length - cp (tl (Txt.slice x (some pre) none)).reverse (tl (Txt.slice y (some pre) none)).reverse)).toArray⟩) (b := b) hxy h0 h1 h2 h3 (tt _) (tt _)
  rwa [tt, tt] at this
theorem lev_ok {w : World} {p : Program} {loose : List Str} {mean : ExcName → Option Value} {mg mb : Str → Option Value} (x y : Str) (b : Int) (tx ty tb : Tok) :
  Pure PySem.Challenge.rw_rs0157_02.prog w (hd2.heap_1 w.params) p loose mean mg mb 28 3 16 [.str x tx, .str y ty, .int b tb] (fun _ => x.length ≤ 40 ∧ y.length ≤ 40) (IsV fun t => .int (levF (tl x) (tl y) b) t) := by
  k_fill
  k_with_none
  k_with "state" => first | exact ⟨by omega, by omega, by omega, PreW.start _ _⟩ | exact ⟨by omega, by omega, by omega, PreW.turn (by assumption) (by omega) (by omega) (by assumption)⟩
  intro dp un gd cn cs a ccd cl outer A₀ base h₀ L m s Q E hB hF hX hT hcs hdp hun hpre hret
  refine wpAny_call ?_
  ((k_dflt (refine' code_pure ?k1 ?k2 ?k3 ?k5 ?kA ?kF ?kK ?k6 ?k7 ?k8 ?k9 ?kB ?_ ?c2 ?c3 ?c4 ?c5; (case kA => exact rfl); (case kF => exact rfl); (case kK => assumption); (case k1 => k_asm); (case k2 => k_asm); (case k3 => k_asm); (case k5 => k_asm); (case k6 => k_is); (case k7 => k_is); (case k8 => (show _ < _; dsimp only; omega)); (case k9 => exact BindsTo.of_eq rfl); (case c5 => decide); (case kB => exact locs rfl); (case c2 => exact rfl); (case c3 => exact rfl); (case c4 => exact rfl); k_whole)))
  intro g L' h₁ hg F' N' B' X' T'
  have hroom : Room dp un := ⟨hdp, hun⟩
  clear hdp hun
  (try dsimp only); (try k_fold)
  (repeat' ((fail_if_success (with_reducible show wpAny _ _ (execs (Stmt.Assign [PySem.Expr.Name (Str.ofString "row") _] _ _ :: _) _) _ _ _)); (fail_if_success (with_reducible show wpAny _ _ (execs (Stmt.While _ _ _ _ :: _) _) _ _ _)); (fail_if_success (with_reducible show wpAny _ _ (execs (Stmt.For _ _ _ _ _ :: _) _) _ _ _)); first | (k_unfold; (try dsimp only)) | walk1 | (dsimp only; walk1) | (leave1; try dsimp only)))
  · exact hret _ _ _ (stays_of hg (by assumption)) (isV_int (levF_same (by assumption)).symm)
  · rename (x == y) = false => hxy
    refine cutF (σ := Int × Nat) (fun _ => []) (fun c => [(Str.ofString "pre", .int c.1 c.2)]) [] (fun c => 0 ≤ c.1 ∧ c.1 ≤ x.length ∧ c.1 ≤ y.length ∧ c.1 = (cp (tl x) (tl y) : Nat)) (by assumption) (by assumption) ?_ ?_
    · k_fold
      k_while (fun _ pre => 0 ≤ pre ∧ pre ≤ x.length ∧ pre ≤ y.length ∧ PreW x y pre) (fun _ pre => x.length - pre.toNat) "pre"
      (repeat' ((fail_if_success (with_reducible show wpAny _ _ (execs (Stmt.Assign [PySem.Expr.Name (Str.ofString "row") _] _ _ :: _) _) _ _ _)); (fail_if_success (with_reducible show wpAny _ _ (execs (Stmt.While _ _ _ _ :: _) _) _ _ _)); (fail_if_success (with_reducible show wpAny _ _ (execs (Stmt.For _ _ _ _ _ :: _) _) _ _ _)); first | (k_unfold; (try dsimp only)) | walk1 | (dsimp only; walk1) | (leave1; try dsimp only)))
      all_goals (((refine Hand.mk (_, _) (by assumption) (by assumption) (fun _ h => h) (by kst_all) (by ksw_same) ?_; (try dsimp only))); refine ⟨by omega, by omega, by omega, ?_⟩; first | exact PreW.stop (by assumption) (by omega) (by omega) (by assumption) | exact PreW.stopx (by assumption) (by omega) | exact PreW.stopy (by assumption) (by omega))
    · intro c u h tk hD F N
      obtain ⟨pre, tpre⟩ := c
      dsimp only [kstB] at F hD
      obtain ⟨hp0, hp1, hp2, hp3⟩ := hD
      (repeat' ((fail_if_success (with_reducible show wpAny _ _ (execs (Stmt.Assign [PySem.Expr.Name (Str.ofString "post") _] _ _ :: _) _) _ _ _)); (fail_if_success (with_reducible show wpAny _ _ (execs (Stmt.While _ _ _ _ :: _) _) _ _ _)); (fail_if_success (with_reducible show wpAny _ _ (execs (Stmt.For _ _ _ _ _ :: _) _) _ _ _)); first | (k_unfold; (try dsimp only)) | walk1 | (dsimp only; walk1) | (leave1; try dsimp only)))
      rename Fr g L' _ _ => FF
      rename News g L' _ _ => NN
      refine lev_suf (A := Txt.slice x (some pre) none) (B := Txt.slice y (some pre) none) (b := b) B' (Fr.kst _ FF (List.forall_mem_cons.mpr ⟨rfl, List.forall_mem_cons.mpr ⟨rfl, List.forall_mem_cons.mpr ⟨rfl, List.forall_mem_nil _⟩⟩⟩)) NN X' T' hroom (by omega) (by omega) ?_
      intro h' tk' m' t r hr F'
      exact hret _ _ _ (stays_of hg F') (isV_int (hr.trans (levF_cut hxy hp0 hp1 hp2 hp3).symm))
end Mine

-- F257
open PySem PySem.W PyProof.Rows PyProof
set_option Elab.async false
set_option maxRecDepth 100000
set_option maxHeartbeats 8000000
set_option pp.deepTerms false
set_option pp.deepTerms.threshold 6
set_option rowWalk.seconds 0
namespace Mine
theorem p257_ok {w : World} {p : Program} {loose : List Str} {mean : ExcName → Option Value} {mg mb : Str → Option Value} (x : Str) (tx : Tok) :
  Pure PySem.Challenge.rw_rs0157_02.prog w (hd2.heap_1 w.params) p loose mean mg mb 121 1 8 [.str x tx] (fun _ => 5 ≤ x.length ∧ x.length ≤ 1000 ∧ (tl x).take 5 = [50, 53, 55, 32, 34]) (IsV fun t => .str (st (scan ((tl x).drop 5))) t) := by
  k_fill
  k_with_none
  w_top off
  intro dp un gd cn cs a ccd cl outer A₀ base h₀ L m s Q E hB hF hX hT hcs hdp hun hpre hret
  refine wpAny_call ?_
  ((k_dflt (refine' code_pure ?k1 ?k2 ?k3 ?k5 ?kA ?kF ?kK ?k6 ?k7 ?k8 ?k9 ?kB ?_ ?c2 ?c3 ?c4 ?c5; (case kA => exact rfl); (case kF => exact rfl); (case kK => assumption); (case k1 => k_asm); (case k2 => k_asm); (case k3 => k_asm); (case k5 => k_asm); (case k6 => k_is); (case k7 => k_is); (case k8 => (show _ < _; dsimp only; omega)); (case k9 => exact BindsTo.of_eq rfl); (case c5 => decide); (case kB => exact locs rfl); (case c2 => exact rfl); (case c3 => exact rfl); (case c4 => exact rfl); k_whole)))
  intro g L' h₁ hg F' N' B' X' T'
  (try dsimp only); (try k_fold)
  obtain ⟨hl0, hl1, hop⟩ := hpre
  have ho1 := open257 hop hl0
  have ho2 := open257b hop hl0
  (repeat' ((fail_if_success (with_reducible show wpAny _ _ (exec (Stmt.While _ _ _ _) _) _ _ _)); first | (k_unfold; (try dsimp only)) | walk1 | (dsimp only; walk1) | (leave1; try dsimp only)))
  · rename (Txt.slice x none (some 3) != Str.ofString "257") = true => hb; rw [bne, ho1] at hb; cases hb
  · rename (Txt.slice x (some 3) (some 5) != Str.ofString " \"") = true => hb; rw [bne, ho2] at hb; cases hb
  · k_with "state" => first | exact ⟨by omega, by omega, by omega, ScanW.start _⟩ | exact ⟨by omega, by omega, by simp only [Str.length_append]; omega, ScanW.other (by assumption) (by omega) (by omega) (by assumption)⟩ | exact ⟨by omega, by omega, by simp only [Str.length_append]; omega, ScanW.two (by assumption) (by omega) (by omega) (by assumption) (by assumption)⟩
    k_while (fun _ i d => 5 ≤ i ∧ i ≤ x.length ∧ (d.length : Int) ≤ i ∧ ScanW x i d) (fun _ i _ => x.length - i.toNat) "i" "dirname"
    (repeat' ((fail_if_success (with_reducible show wpAny _ _ (exec (Stmt.While _ _ _ _) _) _ _ _)); first | (k_unfold; (try dsimp only)) | walk1 | (dsimp only; walk1) | (leave1; try dsimp only)))
    all_goals first | exact hret _ _ _ (stays_of hg (by assumption)) (isV_str (ScanW.stop (by assumption) (by assumption))) | exact hret _ _ _ (stays_of hg (by assumption)) (isV_str (ScanW.brkEnd (by assumption) (by omega) (by omega) (by omega) (by assumption))) | exact hret _ _ _ (stays_of hg (by assumption)) (isV_str (ScanW.brk (by assumption) (by omega) (by omega) (by assumption) (by assumption)))
end Mine

-- F229
open PySem PySem.W PyProof.Rows PyProof
set_option Elab.async false
set_option maxRecDepth 100000
set_option maxHeartbeats 8000000
set_option pp.deepTerms false
set_option pp.deepTerms.threshold 6
set_option rowWalk.seconds 0
namespace Mine
theorem p229_ok {w : World} {p : Program} {loose : List Str} {mean : ExcName → Option Value} {mg mb : Str → Option Value} (x host : Str) (tx th : Tok) (pa : Addr) (tp : Tok) (n : Int) :
  Pure PySem.Challenge.rw_rs0157_02.prog w (hd2.heap_1 w.params) p loose mean mg mb 114 1 8 [.str x tx, .ref pa] (fun h => IsTup h pa #[.str host th, .int 21 tp] ∧ Good229 x n) (NewObj (Tup2 host n)) := by
  k_fill
  k_with_none
  w_top off
  intro dp un gd cn cs a ccd cl outer A₀ base h₀ L m s Q E hB hF hX hT hcs hdp hun hpre hret
  refine wpAny_call ?_
  ((k_dflt (refine' code_pure ?k1 ?k2 ?k3 ?k5 ?kA ?kF ?kK ?k6 ?k7 ?k8 ?k9 ?kB ?_ ?c2 ?c3 ?c4 ?c5; (case kA => exact rfl); (case kF => exact rfl); (case kK => assumption); (case k1 => k_asm); (case k2 => k_asm); (case k3 => k_asm); (case k5 => k_asm); (case k6 => k_is); (case k7 => k_is); (case k8 => (show _ < _; dsimp only; omega)); (case k9 => exact BindsTo.of_eq rfl); (case c5 => decide); (case kB => exact locs rfl); (case c2 => exact rfl); (case c3 => exact rfl); (case c4 => exact rfl); k_whole)))
  intro g L' h₁ hg F' N' B' X' T'
  (try dsimp only); (try k_fold)
  obtain ⟨hpt, hG⟩ := hpre
  rw [← hg] at hpt
  have hl1 := hG.len
  have ho1 := hG.head
  have ho2 := hG.left
  have ho3 := hG.right
  have ho4 := hG.marks
  (repeat' (first | (k_unfold; (try dsimp only)) | walk1 | (dsimp only; walk1) | (leave1; try dsimp only)))
  · rename (Txt.slice x none (some 3) != Str.ofString "229") = true => hb; rw [bne, ho1] at hb; cases hb
  · obtain ⟨a1, b1, c1, d1, e1, hsp, hd1, hd2⟩ := hG.parts
    rename List.map _ _ = Txt.split _ _ => hsp'
    rename (List.length _ : Int) ≠ 5 => hlen
    have := congrArg List.length (hsp'.trans hsp)
    simp only [List.length_map, List.length_cons, List.length_nil] at this
    omega
  · rename List.map _ _ = Txt.split _ _ => hsp'
    rename _ = some _ => hy
    obtain ⟨a1, b1, c1, d1, e1, hsp, hd1, hd2⟩ := hG.parts
    rw [hsp', hsp] at hy
    obtain rfl : d1 = _ := Option.some.inj hy
    refine KIN.call_text hd1 hd2 ?_
    (repeat' (first | (k_unfold; (try dsimp only)) | walk1 | (dsimp only; walk1) | (leave1; try dsimp only)))
    exact hret _ _ _ (stays_of hg (by assumption)) (NewObj.of hg (by assumption) (List.Mem.head _) ⟨_, _, rfl⟩)
end Mine

-- FD1
open PySem PySem.W PyProof.Rows PyProof
set_option Elab.async false
set_option maxRecDepth 100000
set_option maxHeartbeats 8000000
set_option pp.deepTerms false
set_option pp.deepTerms.threshold 6
set_option rowWalk.seconds 0
namespace Mine
theorem div2_ok {w : World} {p : Program} {loose : List Str} {mean : ExcName → Option Value} {mg mb : Str → Option Value} (x y n : Int) (tx ty tn : Tok) :
  Pure PySem.Challenge.rw_rs0157_02.prog w (hd2.heap_1 w.params) p loose mean mg mb 35 1 8 [.int x tx, .int y ty, .int n tn] (fun _ => 0 ≤ x ∧ x < 2 ^ 60 ∧ 0 < y ∧ y < 2 ^ 30 ∧ 0 ≤ n) (NewObj (Tup2I (x.fdiv y) (x.fmod y))) := by
  k_fill
  k_with_none
  w_top off
  intro dp un gd cn cs a ccd cl outer A₀ base h₀ L m s Q E hB hF hX hT hcs hdp hun hpre hret
  refine wpAny_call ?_
  ((k_dflt (refine' code_pure ?k1 ?k2 ?k3 ?k5 ?kA ?kF ?kK ?k6 ?k7 ?k8 ?k9 ?kB ?_ ?c2 ?c3 ?c4 ?c5; (case kA => exact rfl); (case kF => exact rfl); (case kK => assumption); (case k1 => k_asm); (case k2 => k_asm); (case k3 => k_asm); (case k5 => k_asm); (case k6 => k_is); (case k7 => k_is); (case k8 => (show _ < _; dsimp only; omega)); (case k9 => exact BindsTo.of_eq rfl); (case c5 => decide); (case kB => exact locs rfl); (case c2 => exact rfl); (case c3 => exact rfl); (case c4 => exact rfl); k_whole)))
  intro g L' h₁ hg F' N' B' X' T'
  (try dsimp only); (try k_fold)
  obtain ⟨h0, h1, h2, h3, h4⟩ := hpre
  have hb := bits60 h0 h1
  (repeat' (first | (k_unfold; (try dsimp only)) | walk1 | (dsimp only; walk1) | (leave1; try dsimp only)))
  exact hret _ _ _ (stays_of hg (by assumption)) (NewObj.of hg (by assumption) (List.Mem.head _) ⟨_, _, rfl⟩)
end Mine

-- FDI
open PySem PySem.W PyProof.Rows PyProof
set_option Elab.async false
set_option maxRecDepth 100000
set_option maxHeartbeats 8000000
set_option pp.deepTerms false
set_option pp.deepTerms.threshold 6
set_option rowWalk.seconds 0
namespace Mine

noncomputable def fnAt (P : Params) (f : Addr) : List Stmt := match (hd2.heap_1 P).lookup f with
  | some ⟨_, _, .func fd, _⟩ => (match fd.body with | .stmts b => b | .expr _ => [])
  | _ => []
noncomputable def defPar : List Stmt → Arguments
  | .FunctionDef _ ps _ _ _ _ _ _ _ _ :: _ => ps
  | _ :: r => defPar r
  | [] => default
noncomputable def defBody : List Stmt → List Stmt
  | .FunctionDef _ _ b _ _ _ _ _ _ _ :: _ => b
  | _ :: r => defBody r
  | [] => default
noncomputable def defScope : List Stmt → Scope
  | .FunctionDef _ _ _ _ _ _ sc _ _ _ :: _ => sc
  | _ :: r => defScope r
  | [] => default
theorem fnAt_base {h₀ h : Heap} {L q : Addr} {m : Str → Option Value} {oc : Value} {od : Option Addr} {fd : FuncData} {sl : Array (Option Value)} (F : Fr h₀ L h m) (hq : h₀.get? q = some ⟨oc, od, .func fd, sl⟩) : FnAt q h := ⟨oc, od, fd, sl, F.keep _ _ hq⟩

theorem hide_keep {g h : Heap} {D b : Addr} {o oD : Obj} (hg : g = h.hide D) (hD : h.get? D = some oD) (hb : h.get? b = some o) (hne : o ≠ oD) : g.get? b = some o := by
  rw [hg]; exact (Heap.hide_ne _ (fun e => hne (by rw [e, hD] at hb; exact (Option.some.inj hb).symm))).trans hb
structure InSt (f D ca ci cn c' : Addr) (nm qual : Str) (par : Arguments) (body : List Stmt) (sc : Scope) (cl : List (Str × Addr)) (doc pm ctv : Value) (n : Nat) (tn : Tok) (h : Heap) : Prop where
  fn : h.get? f = some (fnMade nm qual par body sc cl doc pm c' ctv)
  code : h.CodeRec (.ref c') qual
  na : ∃ o, h.get? ca = some o ∧ o.data = .cell (some (.ref D))
  ni : ∃ o, h.get? ci = some o ∧ o.data = .cell (some (.ref f))
  nn : ∃ o, h.get? cn = some o ∧ o.data = .cell (some (.int n tn))
  lst : ∃ us c, h.get? D = some (listOf us c)

theorem Fr.staysBut {h₀ h h' : Heap} {L D : Addr} {m : Str → Option Value} (F : Fr h₀ L h m) (k : StaysBut D h h') (h0 : h₀.get? D = none) (hL : D ≠ L) : Fr h₀ L h' m := by
  obtain ⟨oL, a1, a2, e, a3⟩ := F.ns
  exact ⟨⟨oL, a1, a2, k _ _ (Ne.symm hL) e, a3⟩, fun b o q => k _ _ (fun z => by rw [z, h0] at q; cases q) (F.keep b o q), F.above⟩
theorem code_keep {g h : Heap} {D c' : Addr} {qual : Str} {us : Array Value} {c : Nat} (hg : g = h.hide D) (hD : h.get? D = some (listOf us c)) (hc : h.CodeRec (.ref c') qual) : g.CodeRec (.ref c') qual := by
  obtain ⟨c1, oc, vs, t, e1, e2, e3, e4⟩ := hc
  exact ⟨c1, oc, vs, t, e1, hide_keep hg hD e2 (by intro e; rw [e] at e3; cases e3), e3, e4⟩
theorem code_stays {g h : Heap} {c : Value} {qual : Str} (k : g.StaysIn h) (hc : g.CodeRec c qual) : h.CodeRec c qual := by
  obtain ⟨c1, oc, vs, t, e1, e2, e3, e4⟩ := hc
  exact ⟨c1, oc, vs, t, e1, k _ _ e2, e3, e4⟩
theorem mid_eq {lo hi : Int} {k : Nat} (h : hi - lo = k) : (lo + hi).fdiv (2 ^ Int.toNat 1) = lo + ((k / 2 : Nat) : Int) := by
  show (lo + hi).fdiv 2 = _
  rw [Int.fdiv_eq_ediv_of_nonneg _ (by decide)]
  omega
theorem low_lt {n i : Nat} (x : Nat) : ((x % 2 ^ (n * i) : Nat) : Int) < 2 ^ (n * i) := by
  have := Nat.mod_lt x (Nat.two_pow_pos (n * i))
  exact_mod_cast this
theorem high_lt {n i j k : Nat} {x : Int} (h0 : 0 ≤ x) (h : x < 2 ^ (n * k)) (e : k = i + j) : ((x.toNat / 2 ^ (n * i) : Nat) : Int) < 2 ^ (n * j) := by
  have h1 : x.toNat < 2 ^ (n * k) := by
    have : ((x.toNat : Nat) : Int) < ((2 ^ (n * k) : Nat) : Int) := by rw [Int.toNat_of_nonneg h0]; exact_mod_cast h
    exact_mod_cast this
  have h2 : x.toNat / 2 ^ (n * i) < 2 ^ (n * j) := by
    rw [Nat.div_lt_iff_lt_mul (Nat.two_pow_pos _), ← Nat.pow_add, ← Nat.mul_add, Nat.add_comm j i, ← e]
    exact h1
  exact_mod_cast h2
theorem up_lt {x : Int} {s : Nat} (h0 : 0 ≤ x) (h : x < 2 ^ 60) : 0 ≤ x.fdiv (2 ^ s) ∧ x.fdiv (2 ^ s) < 2 ^ 60 := by
  rw [shr_nat h0]
  have := Nat.div_le_self x.toNat (2 ^ s)
  generalize x.toNat / 2 ^ s = q at *
  omega
theorem mod_lt60 {x : Int} {s : Nat} (h0 : 0 ≤ x) (h : x < 2 ^ 60) : ((x.toNat % 2 ^ s : Nat) : Int) < 2 ^ 60 := by
  have := Nat.mod_le x.toNat (2 ^ s)
  generalize x.toNat % 2 ^ s = q at *
  omega
theorem put_all {ds : List Int} {lo : Int} {n i j k : Nat} {x : Nat} (h0 : 0 ≤ lo) (e : k = i + j) (hl : lo + k ≤ ds.length) : put (put ds lo.toNat (dg n (x % 2 ^ (n * i)) i)) (lo + (i : Int)).toNat (dg n (x / 2 ^ (n * i)) j) = put ds lo.toNat (dg n x k) := by
  rw [put_put (by rw [dg_len]; omega) (by rw [dg_len]; omega), ← dg_split, e]

noncomputable def InnerSpec (prog : Program) (w : World) (K : Frag) (p : Program) (loose : List Str) (mean : ExcName → Option Value) (mg mb : Str → Option Value) (f D : Addr) (St : Heap → Prop) (n k : Nat) : Prop :=
  ∀ (lo hi x : Int) (tx tlo thi : Tok) (us : List Value) (ds : List Int) (c : Nat) (dp un : Nat) (gd : Option (List Code)) (cn : Str) (cs : Scope) (a : Addr) (ccd : Value) (cl : List (Str × Addr)) (outer : List Env) (A₀ : Around) (base h₀ : Heap) (L : Addr) (m : Str → Option Value) (s : Shared) (Q E : Value → Shared → Prop),
    hi - lo = k → 0 ≤ lo → hi ≤ ds.length → ds.length ≤ 60 → 0 ≤ x → x < 2 ^ 60 → x < 2 ^ (n * k) →
    Below A₀ base outer h₀ → Fr h₀ L s.heap m → K.In h₀ → Top p loose mean mg mb h₀ → cs.kind = .function → dp + (k + 1) < recursionLimit → un + 3 * (k + 1) + 8 < cLine →
    St s.heap → s.heap.get? D = some (listOf us.toArray c) → h₀.get? D = none → D ≠ L → IntsAre us ds →
    (∀ us' h' tk', StaysBut D s.heap h' → h'.get? D = some (listOf us'.toArray c) → IntsAre us' (put ds lo.toNat (dg n x.toNat k)) → Q .none { s with heap := h', toks := tk' }) →
    wpAny (model prog w) (ktrTop dp un gd cn cs L a ccd cl outer) (PySem.call (.ref f) [.int x tx, .int lo tlo, .int hi thi]) Q E s

local macro_rules | `(tactic| walk_at "eval Name") => `(tactic| (k_here; k_dflt (refine' nameX_B ?F ?c ?v ?d ?_ ?k ?x; (case F => k_asm); (case c => assumption); (case v => assumption); (case d => assumption); (case k => rfl); (case x => rfl); k_whole)))
local macro_rules | `(tactic| walk_at "callWith ref") => `(tactic| (k_here; k_dflt (refine' callWith_F ?k1 ?_; (case k1 => exact fnAt_base (by k_asm) (by assumption)); k_whole)))
local macro_rules | `(tactic| walk_at "FnAt") => `(tactic| (k_dflt (exact fnAt_base (by k_asm) (by assumption))))

theorem inner_ok {w : World} {p : Program} {loose : List Str} {mean : ExcName → Option Value} {mg mb : Str → Option Value} {f D ca ci cn c' : Addr} {qual : Str} {cl : List (Str × Addr)} {doc pm ctv : Value} {n : Nat} {tn : Tok}
    (hn : 1 ≤ n) (hn60 : n ≤ 60) (l1 : cl.lookup (Str.ofString "a_digits") = some ca) (l2 : cl.lookup (Str.ofString "inner") = some ci) (l3 : cl.lookup (Str.ofString "n") = some cn) :
    ∀ k, 1 ≤ k → k ≤ 60 → InnerSpec PySem.Challenge.rw_rs0157_02.prog w (hd2.heap_1 w.params) p loose mean mg mb f D (InSt f D ca ci cn c' (Str.ofString "inner") qual (defPar (fnAt w.params 49)) (defBody (fnAt w.params 49)) (defScope (fnAt w.params 49)) cl doc pm ctv n tn) n k := by
  k_fill
  k_with_none
  w_top off
  generalize hbody : defBody (fnAt w.params 49) = body
  generalize hpar : defPar (fnAt w.params 49) = par
  generalize hscope : defScope (fnAt w.params 49) = sc
  conv at hbody => lhs; whnf
  conv at hpar => lhs; whnf
  conv at hscope => lhs; whnf
  subst hbody hpar hscope
  intro k
  induction k using Nat.strongRecOn with
  | _ k ih =>
  intro hk1 hk60 lo hi x tx tlo thi us ds c dp un gd cnm cs a ccd cl' outer A₀ base h₀ L m s Q E hkk hlo hhi hds hx0 hx60 hx1 hB hF hX hT hcs hdp hun hSt hD hD0 hDL hI hret
  refine wpAny_call ?_
  refine code_mut hB hF hX hT rfl rfl hcs hSt.fn rfl hSt.code (by show _ < _; dsimp only; omega) hD hD0 hDL (BindsTo.of_eq rfl) (locs rfl) ?_ (by decide) rfl rfl rfl
  intro g L' h₁ hg F' N' B' X' T'
  (try dsimp only); (try k_fold)
  obtain ⟨oa, ha1, ha2⟩ := hSt.na
  obtain ⟨oi, hi1, hi2⟩ := hSt.ni
  obtain ⟨on, hn1, hn2⟩ := hSt.nn
  have hfn := hide_keep hg hD hSt.fn (by intro e; have e' : Value.type "function" = Value.type "list" := congrArg Obj.cls e; revert e'; decide)
  have hga := hide_keep hg hD ha1 (by intro e; rw [e] at ha2; cases ha2)
  have hgi := hide_keep hg hD hi1 (by intro e; rw [e] at hi2; cases hi2)
  have hgn := hide_keep hg hD hn1 (by intro e; rw [e] at hn2; cases hn2)
  have hgc := code_keep hg hD hSt.code
  have hgD : g.get? D = none := by rw [hg]; exact Heap.hide_self _ _
  have hDL' : D ≠ L' := (N' _ (List.Mem.head _)).2.1
  have hmid := mid_eq hkk
  obtain ⟨i, hik⟩ : ∃ i, i = k / 2 := ⟨_, rfl⟩
  rw [← hik] at hmid
  have hni : n * i ≤ 3600 := Nat.mul_le_mul hn60 (show i ≤ 60 by omega)
  have hsh : ((lo + hi).fdiv (2 ^ Int.toNat 1) - lo) * (n : Int) = ((n * i : Nat) : Int) := by rw [hmid, Int.natCast_mul, Int.mul_comm]; congr 1; omega
  have hsh0 : 0 ≤ ((lo + hi).fdiv (2 ^ Int.toNat 1) - lo) * (n : Int) := by omega
  have hsh1 : ((lo + hi).fdiv (2 ^ Int.toNat 1) - lo) * (n : Int) ≤ 3600 := by omega
  have hup := up_lt (s := (((lo + hi).fdiv (2 ^ Int.toNat 1) - lo) * (n : Int)).toNat) hx0 hx60
  have hStB : ∀ {h : Heap} {mm : Str → Option Value} {us : Array Value} {c : Nat}, Fr g L' h mm → News g L' h [(D, listOf us c)] → InSt f D ca ci cn c' (Str.ofString "inner") qual _ _ _ cl doc pm ctv n tn h := fun FF NN =>
    ⟨FF.keep _ _ hfn, code_stays FF.keep hgc, ⟨_, FF.keep _ _ hga, ha2⟩, ⟨_, FF.keep _ _ hgi, hi2⟩, ⟨_, FF.keep _ _ hgn, hn2⟩, ⟨_, _, (NN _ (List.Mem.head _)).1⟩⟩
  (repeat' ((fail_if_success (with_reducible show wpAny _ _ (PySem.call (Value.ref _) [_, _, _]) _ _ _)); first | (k_unfold; (try dsimp only)) | walk1 | (dsimp only; walk1) | (leave1; try dsimp only)))
  · refine hret _ _ _ (stays_but hg (by assumption)) ((‹News g L' _ _›) _ (List.Mem.head _)).1 ?_
    have hk : k = 1 := by omega
    subst hk
    rw [dg_one (by simp only [Nat.mul_one] at hx1; have : ((x.toNat : Nat) : Int) < ((2 ^ n : Nat) : Int) := by (rw [Int.toNat_of_nonneg hx0]; exact_mod_cast hx1)
                   exact_mod_cast this), ← put_one (by omega), Int.toNat_of_nonneg hx0]
    assumption
  · rw [hsh, Int.toNat_natCast, xor_low hx0, hmid]
    refine ih i (by omega) (by omega) (by omega) _ _ _ _ _ _ us ds c _ _ _ _ _ _ _ _ _ _ _ g L' _ _ _ _ (by omega) hlo (by omega) hds (by omega) (mod_lt60 hx0 hx60) (low_lt _) B' (by assumption) X' T' rfl (by show _ < _; dsimp only; omega) (by show _ < _; dsimp only; omega) (hStB (by assumption) (by assumption)) ((‹News g L' _ _›) _ (List.Mem.head _)).1 hgD hDL' hI ?_
    intro us1 h1 tk1 st1 hD1 hI1
    have F1 := Fr.staysBut (by assumption : Fr g L' _ _) st1 hgD hDL'
    have N1 : News g L' h1 [(D, listOf us1.toArray c)] := fun q hq => by
      obtain rfl := List.mem_singleton.mp hq
      exact ⟨hD1, hDL', hgD⟩
    clear st1
    (repeat' ((fail_if_success (with_reducible show wpAny _ _ (PySem.call (Value.ref _) [_, _, _]) _ _ _)); first | (k_unfold; (try dsimp only)) | walk1 | (dsimp only; walk1) | (leave1; try dsimp only)))
    rw [hsh, Int.toNat_natCast, shr_nat hx0, hmid]
    refine ih (k - i) (by omega) (by omega) (by omega) _ _ _ _ _ _ us1 _ c _ _ _ _ _ _ _ _ _ _ _ g L' _ _ _ _ (by omega) (by omega) (by rw [put_len (by rw [dg_len]; omega)]; omega) (by rw [put_len (by rw [dg_len]; omega)]; omega) (Int.natCast_nonneg _) (by have := up_lt (s := n * i) hx0 hx60; rw [shr_nat hx0] at this; omega) (high_lt hx0 hx1 (by omega)) B' (by assumption) X' T' rfl (by show _ < _; dsimp only; omega) (by show _ < _; dsimp only; omega) (hStB (by assumption) (by assumption)) ((‹News g L' _ _›) _ (List.Mem.head _)).1 hgD hDL' hI1 ?_
    intro us2 h2 tk2 st2 hD2 hI2
    have F2 := Fr.staysBut (by assumption : Fr g L' _ _) st2 hgD hDL'
    have N2 : News g L' h2 [(D, listOf us2.toArray c)] := fun q hq => by
      obtain rfl := List.mem_singleton.mp hq
      exact ⟨hD2, hDL', hgD⟩
    clear st2
    (repeat' ((fail_if_success (with_reducible show wpAny _ _ (PySem.call (Value.ref _) [_, _, _]) _ _ _)); first | (k_unfold; (try dsimp only)) | walk1 | (dsimp only; walk1) | (leave1; try dsimp only)))
    refine hret _ _ _ (stays_but hg (by assumption)) hD2 ?_
    have e := put_all (ds := ds) (lo := lo) (n := n) (i := i) (j := k - i) (k := k) (x := x.toNat) hlo (by omega) (by omega)
    rw [Int.toNat_natCast] at hI1 hI2
    rw [Int.toNat_natCast] at hI2
    rw [e] at hI2
    exact hI2

-- FDJ
open PySem PySem.W PyProof.Rows PyProof
set_option Elab.async false
set_option maxRecDepth 100000
set_option maxHeartbeats 8000000
set_option pp.deepTerms false
set_option pp.deepTerms.threshold 6
set_option rowWalk.seconds 0


structure InSt2 (f D cd ci cn c' : Addr) (nm qual : Str) (par : Arguments) (body : List Stmt) (sc : Scope) (cl : List (Str × Addr)) (doc pm ctv : Value) (n : Nat) (tn : Tok) (us : List Value) (h : Heap) : Prop where
  fn : h.get? f = some (fnMade nm qual par body sc cl doc pm c' ctv)
  code : h.CodeRec (.ref c') qual
  na : ∃ o, h.get? cd = some o ∧ o.data = .cell (some (.ref D))
  ni : ∃ o, h.get? ci = some o ∧ o.data = .cell (some (.ref f))
  nn : ∃ o, h.get? cn = some o ∧ o.data = .cell (some (.int n tn))
  lst : h.IsList D us.toArray

noncomputable def InnerSpec2 (prog : Program) (w : World) (K : Frag) (p : Program) (loose : List Str) (mean : ExcName → Option Value) (mg mb : Str → Option Value) (f : Addr) (St : Heap → Prop) (n : Nat) (ds : List Int) (k : Nat) : Prop :=
  ∀ (lo hi : Int) (tlo thi : Tok) (dp un : Nat) (gd : Option (List Code)) (cn : Str) (cs : Scope) (a : Addr) (ccd : Value) (cl : List (Str × Addr)) (outer : List Env) (A₀ : Around) (base h₀ : Heap) (L : Addr) (m : Str → Option Value) (s : Shared) (Q E : Value → Shared → Prop),
    hi - lo = k → 0 ≤ lo → hi ≤ ds.length → ud n (cutl ds lo.toNat k) < 2 ^ 60 →
    Below A₀ base outer h₀ → Fr h₀ L s.heap m → K.In h₀ → Top p loose mean mg mb h₀ → cs.kind = .function → dp + (k + 1) < recursionLimit → un + 3 * (k + 1) + 8 < cLine →
    St s.heap →
    (∀ t h' tk', s.heap.StaysIn h' → Q (.int (ud n (cutl ds lo.toNat k)) t) { s with heap := h', toks := tk' }) →
    wpAny (model prog w) (ktrTop dp un gd cn cs L a ccd cl outer) (PySem.call (.ref f) [.int lo tlo, .int hi thi]) Q E s

theorem retP_int {Q : Value → Shared → Prop} {a b : Int} {t : Tok} {s : Shared} (e : a = b) (h : Q (.int b t) s) : RetP Q (.int a t) s := by subst e; exact h
theorem inner2_ok {w : World} {p : Program} {loose : List Str} {mean : ExcName → Option Value} {mg mb : Str → Option Value} {f D cd ci cn c' : Addr} {qual : Str} {cl : List (Str × Addr)} {doc pm ctv : Value} {n : Nat} {tn : Tok} {us : List Value} {ds : List Int}
    (hn60 : n ≤ 60) (hI : IntsAre us ds) (hds : ds.length ≤ 60) (hp : ∀ d ∈ ds, 0 ≤ d) (l1 : cl.lookup (Str.ofString "digits") = some cd) (l2 : cl.lookup (Str.ofString "inner") = some ci) (l3 : cl.lookup (Str.ofString "n") = some cn) :
    ∀ k, 1 ≤ k → k ≤ 60 → InnerSpec2 PySem.Challenge.rw_rs0157_02.prog w (hd2.heap_1 w.params) p loose mean mg mb f (InSt2 f D cd ci cn c' (Str.ofString "inner") qual (defPar (fnAt w.params 56)) (defBody (fnAt w.params 56)) (defScope (fnAt w.params 56)) cl doc pm ctv n tn us) n ds k := by
  k_fill
  k_with_none
  w_top off
  generalize hbody : defBody (fnAt w.params 56) = body
  generalize hpar : defPar (fnAt w.params 56) = par
  generalize hscope : defScope (fnAt w.params 56) = sc
  conv at hbody => lhs; whnf
  conv at hpar => lhs; whnf
  conv at hscope => lhs; whnf
  subst hbody hpar hscope
  intro k
  induction k using Nat.strongRecOn with
  | _ k ih =>
  intro hk1 hk60 lo hi tlo thi dp un gd cnm cs a ccd cl' outer A₀ base h₀ L m s Q E hkk hlo hhi hud hB hF hX hT hcs hdp hun hSt hret
  refine wpAny_call ?_
  refine code_pureX hB hF hX hT rfl rfl hcs hSt.fn rfl hSt.code (by show _ < _; dsimp only; omega) (BindsTo.of_eq rfl) (locs rfl) ?_ (by decide) rfl rfl rfl
  intro g L' h₁ hg F' N' B' X' T'
  rw [← hg] at hSt
  (try dsimp only); (try k_fold)
  obtain ⟨oa, ha1, ha2⟩ := hSt.na
  obtain ⟨oi, hi1, hi2⟩ := hSt.ni
  obtain ⟨on, hn1, hn2⟩ := hSt.nn
  have hfn := hSt.fn
  have hlst := hSt.lst
  have hgc := hSt.code
  have hmid := mid_eq hkk
  obtain ⟨i, hik⟩ : ∃ i, i = k / 2 := ⟨_, rfl⟩
  rw [← hik] at hmid
  have hni : n * i ≤ 3600 := Nat.mul_le_mul hn60 (show i ≤ 60 by omega)
  have hsh : ((lo + hi).fdiv (2 ^ Int.toNat 1) - lo) * (n : Int) = ((n * i : Nat) : Int) := by rw [hmid, Int.natCast_mul, Int.mul_comm]; congr 1; omega
  have hsh0 : 0 ≤ ((lo + hi).fdiv (2 ^ Int.toNat 1) - lo) * (n : Int) := by omega
  have hsh1 : ((lo + hi).fdiv (2 ^ Int.toNat 1) - lo) * (n : Int) ≤ 3600 := by omega
  obtain ⟨hu1, hu2, hu3, hu4⟩ := ud_split (n := n) (lo := lo.toNat) (i := i) (j := k - i) (k := k) hp (by omega) (by omega)
  have hStB : ∀ {h : Heap} {mm : Str → Option Value}, Fr g L' h mm → InSt2 f D cd ci cn c' (Str.ofString "inner") qual _ _ _ cl doc pm ctv n tn us h := fun FF =>
    ⟨FF.keep _ _ hfn, code_stays FF.keep hgc, ⟨_, FF.keep _ _ ha1, ha2⟩, ⟨_, FF.keep _ _ hi1, hi2⟩, ⟨_, FF.keep _ _ hn1, hn2⟩, stays_list FF.keep hlst⟩
  have hlo2 : (lo + (i : Int)).toNat = lo.toNat + i := by omega
  have hH : 0 ≤ ud n (cutl ds (lo.toNat + i) (k - i)) ∧ ud n (cutl ds (lo.toNat + i) (k - i)) < 2 ^ 60 := by
    generalize (2 : Int) ^ (n * i) * ud n (cutl ds (lo.toNat + i) (k - i)) = z at *
    omega
  have hL : ud n (cutl ds lo.toNat i) < 2 ^ 60 := by
    generalize (2 : Int) ^ (n * i) * ud n (cutl ds (lo.toNat + i) (k - i)) = z at *
    omega
  (repeat' ((fail_if_success (with_reducible show wpAny _ _ (PySem.call (Value.ref _) [_, _]) _ _ _)); first | (k_unfold; (try dsimp only)) | walk1 | (dsimp only; walk1) | (leave1; try dsimp only)))
  · have hk : k = 1 := by omega
    subst hk
    have e : ud n (cutl ds lo.toNat 1) = ds.getD lo.toNat 0 := by rw [cutl_one (by omega)]; simp [ud]
    rw [e] at hret
    exact hret _ _ _ (stays_of hg (by assumption))
  · rw [hmid]
    refine ih (k - i) (by omega) (by omega) (by omega) _ _ _ _ _ _ _ _ _ _ _ _ _ _ _ g L' _ _ _ _ (by omega) (by omega) (by omega) (by rw [hlo2]; exact hH.2) B' (by assumption) X' T' rfl (by show _ < _; dsimp only; omega) (by show _ < _; dsimp only; omega) (hStB (by assumption)) ?_
    intro t1 h1 tk1 st1
    have F1 := Fr.stays (by assumption : Fr g L' _ _) st1
    have N1 : News g L' h1 [] := News.nil
    clear st1
    rw [hlo2]
    (repeat' ((fail_if_success (with_reducible show wpAny _ _ (PySem.call (Value.ref _) [_, _]) _ _ _)); first | (k_unfold; (try dsimp only)) | walk1 | (dsimp only; walk1) | (leave1; try dsimp only)))
    rw [hmid]
    refine ih i (by omega) (by omega) (by omega) _ _ _ _ _ _ _ _ _ _ _ _ _ _ _ g L' _ _ _ _ (by omega) (by omega) (by omega) hL B' (by assumption) X' T' rfl (by show _ < _; dsimp only; omega) (by show _ < _; dsimp only; omega) (hStB (by assumption)) ?_
    intro t2 h2 tk2 st2
    have F2 := Fr.stays (by assumption : Fr g L' _ _) st2
    have N2 : News g L' h2 [] := News.nil
    clear st2
    (repeat' ((fail_if_success (with_reducible show wpAny _ _ (PySem.call (Value.ref _) [_, _]) _ _ _)); first | (k_unfold; (try dsimp only)) | walk1 | (dsimp only; walk1) | (leave1; try dsimp only)))
    refine retP_int (b := ud n (cutl ds lo.toNat k)) ?_ (hret _ _ _ (stays_of hg (by assumption)))
    have hs2 : ((lo + (i : Int) - lo) * (n : Int)).toNat = n * i := by rw [show lo + (i : Int) - lo = i by omega, ← Int.natCast_mul, Int.toNat_natCast, Nat.mul_comm]
    (try simp only [hmid])
    rw [hs2, hu1, Int.mul_comm, Int.add_comm]
end Mine

-- FDK
open PySem PySem.W PyProof.Rows PyProof
set_option Elab.async false
set_option maxRecDepth 100000
set_option maxHeartbeats 8000000
set_option pp.deepTerms false
set_option pp.deepTerms.threshold 6
set_option rowWalk.seconds 0
namespace Mine

noncomputable def defPos : List Stmt → Pos
  | .FunctionDef _ _ _ _ _ _ _ _ _ ps :: _ => ps
  | _ :: r => defPos r
  | [] => ⟨0, 0, 0, 0⟩
/-- the table of a def's inner codes is filled -/
noncomputable def Filled (P : Addr) (pos : Pos) (qual : Str) (h : Heap) : Prop := ∃ ps c', h.get? P = some (tabObj ps) ∧ TriplesOk ps.toList ∧ codeAmong pos ps.toList = some (.ref c') ∧ h.CodeRec (.ref c') qual
theorem Filled.stays {P : Addr} {pos : Pos} {qual : Str} {h h' : Heap} (x : Filled P pos qual h) (k : h.StaysIn h') : Filled P pos qual h' := by
  obtain ⟨ps, c', e1, e2, e3, e4⟩ := x
  exact ⟨ps, c', k _ _ e1, e2, e3, code_stays k e4⟩

theorem nestHitB {M : Model} {A : Around} {E : Value → Shared → Prop} {s : Shared} {h₀ : Heap} {L a c P : Addr} {m mg mb : Str → Option Value} {cn : Str} {cs : Scope} {ccd : Value} {cl : List (Str × Addr)} {news : List (Addr × Obj)}
    {p : Program} {loose : List Str} {mean : ExcName → Option Value} {name qual : Str} {params : Arguments} {body : List Stmt} {scope : Scope} {ps : Array Value} {pos : Pos} {firstLine : Nat} {clos : List (Str × Addr)} {Q : Value → Shared → Prop} {c' : Addr}
    (F : Fr h₀ L s.heap m) (N : News h₀ L s.heap news) (T : Top p loose mean mg mb h₀) (C : CodeHd h₀ c P) (hcd : ccd = .ref c) (hP : h₀.get? P = some (tabObj ps)) (ht : TriplesOk ps.toList) (hf : codeAmong pos ps.toList = some (.ref c'))
    (hcl : closureFor scope (envX cn cs L a ccd cl) = pure clos)
    (h : ∀ f ctv doc pm h' tk, Fr h₀ L h' m → News h₀ L h' ((f, fnMade name qual params body scope clos doc pm c' ctv) :: news) → (∀ q ∈ news, q.1 < f) → Q (.ref f) { s with heap := h', toks := tk }) :
    wpAny M A (makeFunction name qual params (.stmts body) scope (envX cn cs L a ccd cl) [] [] [] pos firstLine) Q E s := by
  have hm := F.keep _ _ hP
  obtain ⟨bm, ob, b1, b2, b3, b4, b5, b6⟩ := T.bmain
  have hbP : bm ≠ P := fun q => by
    have e := F.keep _ _ b3
    rw [q, hm] at e; cases e; cases b4
  have hbG : bm ≠ mainGlobals := fun q => by
    obtain ⟨o, es, ep, e, hd, _⟩ := T.g
    rw [q, e] at b3; cases b3; rw [hd] at b6; cases b6
  refine makeFunction_hit (mg := mg) hcl rfl (T.g.keeps F.keep) hcd (C.keeps F.keep) hm ht hf ⟨bm, ob, b1, b2, hbG, hbP, F.keep _ _ b3, b4, b5, b6⟩ fun ctv doc h' tk hk hsz => ?_
  have hLs : L < h'.objs.size := Nat.lt_of_lt_of_le F.ns.lt hsz
  refine h h'.objs.size ctv doc ((mg "__name__").getD .none) _ tk (Fr.push (Fr.stays F hk) _) (fun q hq => ?_) (fun q hq => Nat.lt_of_lt_of_le (Heap.lt_size (N q hq).1) hsz)
  rcases List.mem_cons.mp hq with rfl | hq
  · exact ⟨Heap.get?_push_size _ rfl, Nat.ne_of_gt hLs, Heap.get?_none_of_le (Nat.le_trans F.above (Nat.le_of_lt hLs))⟩
  · exact ⟨Heap.get?_push_of_some _ (hk _ _ (N q hq).1), (N q hq).2⟩
end Mine

-- FE1
open PySem PySem.W PyProof.Rows PyProof
set_option Elab.async false
set_option maxRecDepth 100000
set_option maxHeartbeats 8000000
set_option pp.deepTerms false
set_option pp.deepTerms.threshold 6
set_option rowWalk.seconds 0
namespace Mine

noncomputable def ndig (n : Nat) (x : Int) : Nat := (((Builtin.Int.intBits x : Int) + n - 1).fdiv n).toNat
theorem ndig_eq {n : Nat} {x : Int} (hn : 1 ≤ n) (h0 : 0 ≤ x) (h : x < 2 ^ 60) : ((Builtin.Int.intBits x : Int) + n - 1).fdiv n = (ndig n x : Int) ∧ ndig n x ≤ 60 ∧ x < 2 ^ (n * ndig n x) := by
  have hb := bits60 h0 h
  have e : ((Builtin.Int.intBits x : Int) + n - 1).fdiv n = (((Builtin.Int.intBits x + n - 1) / n : Nat) : Int) := by
    rw [Int.fdiv_eq_ediv_of_nonneg _ (by omega)]
    rw [Int.natCast_ediv]
    congr 1; omega
  have e2 : ndig n x = (Builtin.Int.intBits x + n - 1) / n := by unfold ndig; rw [e, Int.toNat_natCast]
  have h1 : n * ((Builtin.Int.intBits x + n - 1) / n) ≥ Builtin.Int.intBits x := by
    have h3 := Nat.div_add_mod (Builtin.Int.intBits x + n - 1) n
    have h4 := Nat.mod_lt (Builtin.Int.intBits x + n - 1) (show 0 < n by omega)
    omega
  refine ⟨by rw [e, e2], ?_, ?_⟩
  · rw [e2]
    have : (Builtin.Int.intBits x + n - 1) / n ≤ Builtin.Int.intBits x := by
      by_cases hz : Builtin.Int.intBits x = 0
      · rw [hz, Nat.zero_add, Nat.div_eq_of_lt (by omega)]; exact Nat.le_refl _
      · rw [Nat.div_le_iff_le_mul_add_pred (by omega)]
        have : Builtin.Int.intBits x ≤ n * Builtin.Int.intBits x := Nat.le_mul_of_pos_left _ (by omega)
        omega
    omega
  · have h5 : x.natAbs < 2 ^ (n * ndig n x) := intBits_le_iff.mp (by rw [e2]; exact h1)
    have h6 : ((x.natAbs : Nat) : Int) < ((2 ^ (n * ndig n x) : Nat) : Int) := by exact_mod_cast h5
    have h7 : ((x.natAbs : Nat) : Int) = x := by omega
    rw [h7] at h6
    exact_mod_cast h6
theorem put_full {ds l : List Int} (h : l.length = ds.length) : put ds 0 l = l := by
  unfold put
  rw [List.take_zero, List.nil_append, Nat.zero_add, h, List.drop_length, List.append_nil]
theorem ints_rep (k : Nat) (t : Tok) : IntsAre (List.replicate k (.int 0 t)) (List.replicate k 0) := by
  induction k with
  | zero => exact IntsAre.nil
  | succ k ih => exact IntsAre.cons _ _ ih
theorem News.but1 {h₀ h h' : Heap} {L D x : Addr} {oD oD' ox : Obj} {news : List (Addr × Obj)} (N : News h₀ L h news) (st : StaysBut D h h') (hD : h'.get? D = some oD') (hm : (D, oD) ∈ news) (hx : (x, ox) ∈ news) (hne : x ≠ D) : News h₀ L h' [(D, oD'), (x, ox)] := fun q hq => by
  rcases List.mem_cons.mp hq with rfl | hq
  · exact ⟨hD, (N _ hm).2⟩
  · obtain rfl := List.mem_singleton.mp hq
    exact ⟨st _ _ hne (N _ hx).1, (N _ hx).2⟩
/-- a list of ints -/
noncomputable def ListI (ds : List Int) (o : Obj) : Prop := ∃ us c, o = listOf (List.toArray us) c ∧ IntsAre us ds
theorem mul_zero0 {prog : Program} {w : World} {A : Around} {E : Value → Shared → Prop} {s : Shared} {h₀ : Heap} {L l : Addr} {m : Str → Option Value} {news : List (Addr × Obj)} {t : Tok} {k : Nat} {u : Tok} {Q : Value → Shared → Prop}
    (F : Fr h₀ L s.heap m) (N : News h₀ L s.heap news) (hl : s.heap.IsList l #[.int 0 t]) (hk : k ≤ 256)
    (h : ∀ D us h', IntsAre us (List.replicate k 0) → Fr h₀ L h' m → News h₀ L h' ((D, listOf (List.toArray us) 0) :: news) → (∀ p ∈ news, p.1 < D) → Q (.ref D) { s with heap := h' }) :
    wpAny (model prog w) A (binaryOp .Mult (.ref l) (.int (k : Int) u)) Q E s :=
  mul_one1 F N hl hk fun D h' F' N' hlt => h D _ h' (ints_rep k t) F' N' hlt
theorem ndig_zero {n : Nat} (hn : 1 ≤ n) : ndig n 0 = 0 := by
  unfold ndig
  have : Builtin.Int.intBits 0 = 0 := by decide +kernel
  rw [this, Int.fdiv_eq_ediv_of_nonneg _ (by omega), Int.ediv_eq_zero_of_lt (by omega) (by omega)]
  rfl

theorem i2dF_ok {w : World} {p : Program} {loose : List Str} {mean : ExcName → Option Value} {mg mb : Str → Option Value} (x : Int) (n : Nat) (tx tn : Tok) :
  Pure PySem.Challenge.rw_rs0157_02.prog w (hd2.heap_1 w.params) p loose mean mg mb 49 64 210 [.int x tx, .int n tn] (fun h => 0 ≤ x ∧ x < 2 ^ 60 ∧ 1 ≤ n ∧ n ≤ 60 ∧ Filled 44 (defPos (fnAt w.params 49)) (Str.ofString "_int2digits.<locals>.inner") h) (NewObj (ListI (dg n x.toNat (ndig n x)))) := by
  k_fill
  k_with_none
  w_top off
  intro dp un gd cn cs a ccd cl outer A₀ base h₀ L m s Q E hB hF hX hT hcs hdp hun hpre hret
  refine wpAny_call ?_
  ((k_dflt (refine' code_pureC ?k1 ?k2 ?k3 ?k5 ?kA ?kF ?kK ?k6 ?k7 ?k8 ?k9 ?kB ?kD ?_ ?c2 ?c3 ?c4; (case kA => exact rfl); (case kF => exact rfl); (case kK => assumption); (case k1 => k_asm); (case k2 => k_asm); (case k3 => k_asm); (case k5 => k_asm); (case k6 => k_is); (case k7 => k_is); (case k8 => (show _ < _; dsimp only; omega)); (case k9 => exact BindsTo.of_eq rfl); (case kB => exact rfl); (case kD => decide +kernel); (case c2 => exact rfl); (case c3 => exact rfl); (case c4 => exact rfl); k_whole)))
  intro g L' h₁ tk' cells' hg F' N' Y' B' X' T' hsz
  k_cells Y'
  (try simp only [List.cons_append, List.nil_append] at N')
  (try dsimp only); (try k_fold)
  obtain ⟨h0, h1, h2, h3, hfill⟩ := hpre
  rw [← hg] at hfill
  obtain ⟨ps, c1, hps1, hps2, hps3, hps4⟩ := hfill
  obtain ⟨hk1, hk60, hkx⟩ := ndig_eq h2 h0 h1
  have hC : CodeHd g 48 44 := codeHd_of_K X' (by kernel_rfl)
  (repeat' ((fail_if_success (with_reducible show wpAny _ _ (binaryOp Operator.Mult (Value.ref _) _) _ _ _)); (fail_if_success (with_reducible show wpAny _ _ (exec (Stmt.FunctionDef _ _ _ _ _ _ _ _ _ _) _) _ _ _)); (fail_if_success (with_reducible show wpAny _ _ (PySem.call (Value.ref _) [_, _, _]) _ _ _)); first | (k_unfold; (try dsimp only)) | walk1 | (dsimp only; walk1) | (leave1; try dsimp only)))
  rw [hk1]
  refine mul_zero0 (by assumption) (by assumption) (by is_list) (by omega) ?_
  intro D us h' hI F' N' hlt
  k_lt hlt
  (repeat' ((fail_if_success (with_reducible show wpAny _ _ (binaryOp Operator.Mult (Value.ref _) _) _ _ _)); (fail_if_success (with_reducible show wpAny _ _ (exec (Stmt.FunctionDef _ _ _ _ _ _ _ _ _ _) _) _ _ _)); (fail_if_success (with_reducible show wpAny _ _ (PySem.call (Value.ref _) [_, _, _]) _ _ _)); first | (k_unfold; (try dsimp only)) | walk1 | (dsimp only; walk1) | (leave1; try dsimp only)))
  refine nestDef_K rfl rfl rfl ?_
  refine nestHitB (by assumption) (by assumption) T' hC rfl hps1 hps2 hps3 rfl ?_
  intro f ctv doc pm h' tk F' N' hlt2
  k_lt hlt2
  have hIl := hI.length
  rw [List.length_replicate] at hIl
  (repeat' ((fail_if_success (with_reducible show wpAny _ _ (binaryOp Operator.Mult (Value.ref _) _) _ _ _)); (fail_if_success (with_reducible show wpAny _ _ (exec (Stmt.FunctionDef _ _ _ _ _ _ _ _ _ _) _) _ _ _)); (fail_if_success (with_reducible show wpAny _ _ (PySem.call (Value.ref _) [_, _, _]) _ _ _)); first | (k_unfold; (try dsimp only)) | walk1 | (dsimp only; walk1) | (leave1; try dsimp only)))
  · refine kst_len (by assumption) (by k_mem) hIl (by omega) ?_
    (repeat' ((fail_if_success (with_reducible show wpAny _ _ (binaryOp Operator.Mult (Value.ref _) _) _ _ _)); (fail_if_success (with_reducible show wpAny _ _ (exec (Stmt.FunctionDef _ _ _ _ _ _ _ _ _ _) _) _ _ _)); (fail_if_success (with_reducible show wpAny _ _ (PySem.call (Value.ref _) [_, _, _]) _ _ _)); first | (k_unfold; (try dsimp only)) | walk1 | (dsimp only; walk1) | (leave1; try dsimp only)))
    have hk0 : 1 ≤ ndig n x := by
      rcases Nat.eq_zero_or_pos (ndig n x) with hz | hz
      · rw [hz, Nat.mul_zero] at hkx; omega
      · exact hz
    rename News g L' _ _ => NN
    refine inner_ok (ca := L' + 1 + 1) (ci := L' + 1 + 1 + 1) (cn := L' + 1) (doc := doc) (pm := pm) (ctv := ctv) (c' := c1) (tn := tn) (qual := Str.ofString "_int2digits.<locals>.inner") h2 h3 rfl rfl rfl (ndig n x) hk0 hk60 _ _ _ _ _ _ us _ 0 _ _ _ _ _ _ _ _ _ _ _ g L' _ _ _ _ (by omega) (by omega) (by rw [List.length_replicate]; omega) (by rw [List.length_replicate]; omega) h0 h1 hkx B' (by assumption) X' T' rfl (by show _ < _; dsimp only; omega) (by show _ < _; dsimp only; omega) ⟨(NN _ (by k_mem)).1, code_stays (Fr.keep (by assumption)) hps4, ⟨_, (NN (L' + 1 + 1, _) (by k_mem)).1, by assumption⟩, ⟨_, (NN (L' + 1 + 1 + 1, _) (by k_mem)).1, by assumption⟩, ⟨_, (NN (L' + 1, _) (by k_mem)).1, by assumption⟩, ⟨_, _, (NN (D, _) (by k_mem)).1⟩⟩ (NN (D, _) (by k_mem)).1 (NN (D, _) (by k_mem)).2.2 (NN (D, _) (by k_mem)).2.1 hI ?_
    intro us2 h2 tk2 st2 hD2 hI2
    rw [show (0 : Int).toNat = 0 from rfl, put_full (by rw [dg_len, List.length_replicate])] at hI2
    have F2 := Fr.staysBut (by assumption : Fr g L' _ _) st2 (NN (D, _) (by k_mem)).2.2 (NN (D, _) (by k_mem)).2.1
    have N2 := News.but1 (D := D) (x := L' + 1 + 1) NN st2 hD2 (by k_mem) (by k_mem) (by (refine neN ?_); omega)
    clear st2 NN
    (repeat' ((fail_if_success (with_reducible show wpAny _ _ (binaryOp Operator.Mult (Value.ref _) _) _ _ _)); (fail_if_success (with_reducible show wpAny _ _ (exec (Stmt.FunctionDef _ _ _ _ _ _ _ _ _ _) _) _ _ _)); (fail_if_success (with_reducible show wpAny _ _ (PySem.call (Value.ref _) [_, _, _]) _ _ _)); first | (k_unfold; (try dsimp only)) | walk1 | (dsimp only; walk1) | (leave1; try dsimp only)))
    exact hret _ _ _ (stays_of hg (by assumption)) (NewObj.of hg (by assumption) (List.Mem.head _) ⟨_, _, rfl, hI2⟩)
  · rename x = 0 => hx
    subst hx
    refine hret _ _ _ (stays_of hg (by assumption)) (NewObj.of hg (by assumption) (by k_mem) ⟨us, 0, rfl, ?_⟩)
    rw [ndig_zero h2] at hI ⊢
    exact hI
end Mine

-- FE2
open PySem PySem.W PyProof.Rows PyProof
set_option Elab.async false
set_option maxRecDepth 100000
set_option maxHeartbeats 8000000
set_option pp.deepTerms false
set_option pp.deepTerms.threshold 6
set_option rowWalk.seconds 0
namespace Mine

theorem d2iF_ok {w : World} {p : Program} {loose : List Str} {mean : ExcName → Option Value} {mg mb : Str → Option Value} (D : Addr) (us : List Value) (ds : List Int) (n : Nat) (tn : Tok) :
  Pure PySem.Challenge.rw_rs0157_02.prog w (hd2.heap_1 w.params) p loose mean mg mb 56 64 210 [.ref D, .int n tn] (fun h => h.IsList D us.toArray ∧ IntsAre us ds ∧ ds.length ≤ 60 ∧ (∀ d ∈ ds, 0 ≤ d) ∧ ud n ds < 2 ^ 60 ∧ n ≤ 60 ∧ Filled 51 (defPos (fnAt w.params 56)) (Str.ofString "_digits2int.<locals>.inner") h) (IsV fun t => .int (ud n ds) t) := by
  k_fill
  k_with_none
  w_top off
  intro dp un gd cn cs a ccd cl outer A₀ base h₀ L m s Q E hB hF hX hT hcs hdp hun hpre hret
  refine wpAny_call ?_
  ((k_dflt (refine' code_pureC ?k1 ?k2 ?k3 ?k5 ?kA ?kF ?kK ?k6 ?k7 ?k8 ?k9 ?kB ?kD ?_ ?c2 ?c3 ?c4; (case kA => exact rfl); (case kF => exact rfl); (case kK => assumption); (case k1 => k_asm); (case k2 => k_asm); (case k3 => k_asm); (case k5 => k_asm); (case k6 => k_is); (case k7 => k_is); (case k8 => (show _ < _; dsimp only; omega)); (case k9 => exact BindsTo.of_eq rfl); (case kB => exact rfl); (case kD => decide +kernel); (case c2 => exact rfl); (case c3 => exact rfl); (case c4 => exact rfl); k_whole)))
  intro g L' h₁ tk' cells' hg F' N' Y' B' X' T' hsz
  k_cells Y'
  (try simp only [List.cons_append, List.nil_append] at N')
  (try dsimp only); (try k_fold)
  obtain ⟨hl, hI, hlen, hpos, hud, h3, hfill⟩ := hpre
  rw [← hg] at hfill hl
  obtain ⟨ps, c1, hps1, hps2, hps3, hps4⟩ := hfill
  have hIl := hI.length
  have hC : CodeHd g 55 51 := codeHd_of_K X' (by kernel_rfl)
  (repeat' ((fail_if_success (with_reducible show wpAny _ _ (exec (Stmt.FunctionDef _ _ _ _ _ _ _ _ _ _) _) _ _ _)); (fail_if_success (with_reducible show wpAny _ _ (PySem.call (Value.ref _) [_, _]) _ _ _)); first | (k_unfold; (try dsimp only)) | walk1 | (dsimp only; walk1) | (leave1; try dsimp only)))
  refine nestDef_K rfl rfl rfl ?_
  refine nestHitB (by assumption) (by assumption) T' hC rfl hps1 hps2 hps3 rfl ?_
  intro f ctv doc pm h' tk F' N' hlt2
  k_lt hlt2
  (repeat' ((fail_if_success (with_reducible show wpAny _ _ (exec (Stmt.FunctionDef _ _ _ _ _ _ _ _ _ _) _) _ _ _)); (fail_if_success (with_reducible show wpAny _ _ (PySem.call (Value.ref _) [_, _]) _ _ _)); first | (k_unfold; (try dsimp only)) | walk1 | (dsimp only; walk1) | (leave1; try dsimp only)))
  · rename News g L' _ _ => NN
    have hcut : cutl ds (0 : Int).toNat ds.length = ds := by
      unfold cutl
      rw [show (0 : Int).toNat = 0 from rfl, List.drop_zero, List.take_length]
    refine inner2_ok (D := D) (cd := L' + 1) (ci := L' + 1 + 1 + 1) (cn := L' + 1 + 1) (doc := doc) (pm := pm) (ctv := ctv) (c' := c1) (tn := tn) (us := us) (qual := Str.ofString "_digits2int.<locals>.inner") h3 hI hlen hpos rfl rfl rfl ds.length (by omega) hlen _ _ _ _ _ _ _ _ _ _ _ _ _ _ _ g L' _ _ _ _ (by omega) (by omega) (by omega) (by rw [hcut]; exact hud) B' (by assumption) X' T' rfl (by show _ < _; dsimp only; omega) (by show _ < _; dsimp only; omega) ⟨(NN (f, _) (by k_mem)).1, code_stays (Fr.keep (by assumption)) hps4, ⟨_, (NN (L' + 1, _) (by k_mem)).1, by assumption⟩, ⟨_, (NN (L' + 1 + 1 + 1, _) (by k_mem)).1, by assumption⟩, ⟨_, (NN (L' + 1 + 1, _) (by k_mem)).1, by assumption⟩, stays_list (Fr.keep (by assumption)) hl⟩ ?_
    intro t2 h2 tk2 st2
    rw [hcut]
    have F2 := Fr.stays (by assumption : Fr g L' _ _) st2
    clear st2 NN
    exact hret _ _ _ (stays_of hg F2) (isV_int rfl)
  · have hz : ds = [] := List.eq_nil_of_length_eq_zero (by omega)
    refine hret _ _ _ (stays_of hg (by assumption)) (isV_int ?_)
    rw [hz]; rfl
end Mine

-- P5
open PySem PySem.W PyProof.Rows PyProof
set_option Elab.async false
set_option maxRecDepth 100000
set_option linter.unusedVariables false
namespace Mine
theorem rep_dbl (x : Str) : tl (Txt.replace x (Str.ofString "\"") (Str.ofString "\"\"")) = StrLaws.dbl 34 (tl x) := by
  have e : Str.ofString "\"\"" = ⟨#[34, 34]⟩ := by decide +kernel
  rw [q34_eq, e]
  exact StrLaws.replace_double x 34
theorem dbl_len (c : Nat) : ∀ l : List Nat, (StrLaws.dbl c l).length ≤ 2 * l.length
  | [] => Nat.le_refl _
  | a :: r => by
    have := dbl_len c r
    unfold StrLaws.dbl
    split <;> simp only [List.length_cons] <;> omega
theorem rep_len (x : Str) : (Txt.replace x (Str.ofString "\"") (Str.ofString "\"\"")).length ≤ 2 * x.length := by
  rw [← tl_len, rep_dbl, ← tl_len x]; exact dbl_len _ _
theorem scan_dbl {t : List Nat} (ht : t.head? ≠ some 34) : ∀ l : List Nat, scan (StrLaws.dbl 34 l ++ 34 :: t) = l
  | [] => by
    show scan (34 :: t) = []
    cases t with
    | nil => simp [scan]
    | cons d r => rw [scan, if_pos rfl, if_neg (fun q => ht (by rw [q]; rfl))]
  | a :: r => by
    have ih := scan_dbl ht r
    unfold StrLaws.dbl
    split
    · rename_i h
      have h' : a = 34 := by simpa using h
      subst h'
      show scan (34 :: 34 :: (StrLaws.dbl 34 r ++ 34 :: t)) = 34 :: r
      rw [scan, if_pos rfl, if_pos rfl, ih]
    · rename_i h
      have h' : a ≠ 34 := by simpa using h
      show scan (a :: (StrLaws.dbl 34 r ++ 34 :: t)) = a :: r
      rw [scan_other h', ih]
end Mine

-- FG1
open PySem PySem.W PyProof.Rows PyProof
set_option Elab.async false
set_option maxRecDepth 100000
set_option maxHeartbeats 8000000
set_option pp.deepTerms false
set_option pp.deepTerms.threshold 6
set_option rowWalk.seconds 0
namespace Mine

noncomputable def lettersF (n : Int) : Str := Txt.item (Str.ofString "\"xXy") (n.fmod 4) ++ Txt.item (Str.ofString "\"xXy") ((n.fmod 4 + 1 + n.fdiv 4).fmod 4)
theorem letters_ok {w : World} {p : Program} {loose : List Str} {mean : ExcName → Option Value} {mg mb : Str → Option Value} (n : Int) (tn : Tok) :
  Pure PySem.Challenge.rw_rs0157_02.prog w (hd2.heap_1 w.params) p loose mean mg mb 133 1 8 [.int n tn] (fun _ => 0 ≤ n ∧ n < 12) (IsV fun t => .str (lettersF n) t) := by
  k_fill
  k_with_none
  w_top off
  intro dp un gd cn cs a ccd cl outer A₀ base h₀ L m s Q E hB hF hX hT hcs hdp hun hpre hret
  refine wpAny_call ?_
  ((k_dflt (refine' code_pure ?k1 ?k2 ?k3 ?k5 ?kA ?kF ?kK ?k6 ?k7 ?k8 ?k9 ?kB ?_ ?c2 ?c3 ?c4 ?c5; (case kA => exact rfl); (case kF => exact rfl); (case kK => assumption); (case k1 => k_asm); (case k2 => k_asm); (case k3 => k_asm); (case k5 => k_asm); (case k6 => k_is); (case k7 => k_is); (case k8 => (show _ < _; dsimp only; omega)); (case k9 => exact BindsTo.of_eq rfl); (case c5 => decide); (case kB => exact locs rfl); (case c2 => exact rfl); (case c3 => exact rfl); (case c4 => exact rfl); k_whole)))
  intro g L' h₁ hg F' N' B' X' T'
  (try dsimp only); (try k_fold)
  (repeat' (first | (k_unfold; (try dsimp only)) | walk1 | (dsimp only; walk1) | (leave1; try dsimp only)))
  exact hret _ _ _ (stays_of hg (by assumption)) (isV_str rfl)
noncomputable def replyF (x : Str) : Str := Str.ofString "257 \"" ++ Txt.replace x (Str.ofString "\"") (Str.ofString "\"\"") ++ Str.ofString "\" has \"one\" more"
theorem reply_ok {w : World} {p : Program} {loose : List Str} {mean : ExcName → Option Value} {mg mb : Str → Option Value} (x : Str) (tx : Tok) :
  Pure PySem.Challenge.rw_rs0157_02.prog w (hd2.heap_1 w.params) p loose mean mg mb 152 1 8 [.str x tx] (fun _ => x.length ≤ 100) (IsV fun t => .str (replyF x) t) := by
  k_fill
  k_with_none
  intro dp un gd cn cs a ccd cl outer A₀ base h₀ L m s Q E hB hF hX hT hcs hdp hun hpre hret
  refine wpAny_call ?_
  ((k_dflt (refine' code_pure ?k1 ?k2 ?k3 ?k5 ?kA ?kF ?kK ?k6 ?k7 ?k8 ?k9 ?kB ?_ ?c2 ?c3 ?c4 ?c5; (case kA => exact rfl); (case kF => exact rfl); (case kK => assumption); (case k1 => k_asm); (case k2 => k_asm); (case k3 => k_asm); (case k5 => k_asm); (case k6 => k_is); (case k7 => k_is); (case k8 => (show _ < _; dsimp only; omega)); (case k9 => exact BindsTo.of_eq rfl); (case c5 => decide); (case kB => exact locs rfl); (case c2 => exact rfl); (case c3 => exact rfl); (case c4 => exact rfl); k_whole)))
  intro g L' h₁ hg F' N' B' X' T'
  (try dsimp only); (try k_fold)
  have hrl := rep_len x
  (repeat' (first | (k_unfold; (try dsimp only)) | walk1 | (dsimp only; walk1) | (leave1; try dsimp only)))
  all_goals (try exact hret _ _ _ (stays_of hg (by assumption)) (isV_str rfl))
end Mine

-- BaseE
open PySem PySem.W PyProof.Rows PyProof
set_option Elab.async false
set_option maxRecDepth 100000
namespace Mine
noncomputable abbrev Led := List (Addr × Obj)
/-- all but as stands as it stood -/
noncomputable def StaysOff (as : List Addr) (h h' : Heap) : Prop := ∀ b o, b ∉ as → h.get? b = some o → h'.get? b = some o
theorem stays_off {g h' : Heap} {L : Addr} {as : List Addr} {m : Str → Option Value} {s : Shared} (hg : g = hideAll s.heap as) (F : Fr g L h' m) : StaysOff as s.heap h' := fun b o hb e =>
  F.keep b o (by rw [hg]; exact hideAll_get _ e hb)
theorem Fr.staysOff {h₀ h h' : Heap} {L : Addr} {m : Str → Option Value} {tabs : Led} (F : Fr h₀ L h m) (N : News h₀ L h tabs) (k : StaysOff (tabs.map (·.1)) h h') : Fr h₀ L h' m := by
  obtain ⟨oL, a1, a2, hL, a3⟩ := F.ns
  refine ⟨⟨oL, a1, a2, k _ _ (fun q => ?_) hL, a3⟩, fun b o e => k _ _ (fun q => ?_) (F.keep b o e), F.above⟩
  · obtain ⟨r, hr, e⟩ := List.mem_map.mp q
    exact (N r hr).2.1 e
  · obtain ⟨r, hr, e'⟩ := List.mem_map.mp q
    have := (N r hr).2.2
    rw [e', e] at this; cases this

theorem code_T {prog : Program} {w : World} {A A₀ : Around} {s : Shared} {K : Frag} {L : Addr} {h₀ base : Heap} {m mg mb : Str → Option Value} {p : Program} {loose : List Str} {mean : ExcName → Option Value}
    {env : Env} {outer : List Env} {Q E : Value → Shared → Prop} {name qual : Str} {params : Arguments} {body : List Stmt} {scope : Scope} {dV kV doc pm cdv ct oc : Value} {an od : Option Addr} {osl : Array (Option Value)} {f : Addr} {args : Args} {binds : List (Str × Value)} {tabs : Led}
    (B : Below A₀ base outer h₀) (F : Fr h₀ L s.heap m) (X₀ : K.In h₀) (T : Top p loose mean mg mb h₀) (N : News h₀ L s.heap tabs) (hA : A.frames = some (env :: outer)) (hf : env.frame = some L) (hke : env.scope.kind = .function)
    (ho : K.lookup f = some ⟨oc, od, .func (fnOf name qual params body scope dV kV doc pm an cdv ct), osl⟩) (hcd : codeIn K cdv qual = true) (hroom : A.depth < recursionLimit)
    (hbind : BindsTo s (fnOf name qual params body scope dV kV doc pm an cdv ct) args binds) (hloc : ∀ y ∈ binds, scope.names.lookup y.1 = some .local)
    (h : ∀ g L' h₁, g = hideAll s.heap (tabs.map (·.1)) → Fr g L' h₁ (fun y => binds.reverse.lookup y) → News g L' h₁ tabs → Below A base (env :: outer) g → K.In g → Top p loose mean mg mb g → s.heap.objs.size = L' → (∀ q ∈ tabs, q.1 < L') →
      wpAny (model prog w) (A.deeper (envOf qual scope L' f cdv)) (execs body (envOf qual scope L' f cdv))
        (fun fl s' => RetP Q (match fl with | .ret v => v | _ => .none) s')
        (fun e s' => wpAny (model prog w) (A.deeper (envOf qual scope L' f cdv)) (leaving (envOf qual scope L' f cdv) e) (fun _ s'' => E e s'') (fun e' s'' => E e' s'') s')
        { s with heap := h₁, toks := s.toks + binds.length })
    (hco : scope.isCoroutine = false) (hgen : scope.isGenerator = false) (hk : scope.kind = .function)
    (hcell : ∀ x ∈ scope.names, x.2 ≠ .cell) : codeAny (model prog w) A (.call (.ref f) args) (fun r s' => match r with | .ok (.ret v) => Q v s' | .ok _ => False | .error e => E e s') s := by
  have X : K.In s.heap := X₀.keeps F.keep
  obtain ⟨FG, BG, st, lv⟩ := groundX (R := fun _ _ => True) B F N hA hf hke
  refine codeAny_call_def (fd := fnOf name qual params body scope dV kV doc pm an cdv ct) (body := body) (binds := binds) hroom (X _ _ ho) rfl (T.nolimit.keeps F.keep) (codeRec_of X hcd) rfl hbind hcell hloc (fun h₁ hns hk₁ => ?_) hco hgen hk
  exact h _ s.heap.objs.size h₁ rfl ⟨hns, fun b o e => hk₁ b o (of_hideAll _ e), Nat.le_of_eq (hideAll_size _ _)⟩ (fun q hq => ⟨hk₁ _ _ (N q hq).1, Nat.ne_of_lt (Heap.lt_size (N q hq).1), hideAll_none _ (List.mem_map_of_mem hq)⟩) BG (X₀.keeps st) (T.keeps st) rfl fun q hq => Heap.lt_size (N q hq).1

theorem code_TC {prog : Program} {w : World} {A A₀ : Around} {s : Shared} {K : Frag} {L : Addr} {h₀ base : Heap} {m mg mb : Str → Option Value} {p : Program} {loose : List Str} {mean : ExcName → Option Value}
    {env : Env} {outer : List Env} {Q E : Value → Shared → Prop} {name qual : Str} {params : Arguments} {body : List Stmt} {scope : Scope} {dV kV doc pm cdv ct oc : Value} {an od : Option Addr} {osl : Array (Option Value)} {f : Addr} {args : Args} {binds : List (Str × Value)} {tabs : Led}
    (B : Below A₀ base outer h₀) (F : Fr h₀ L s.heap m) (X₀ : K.In h₀) (T : Top p loose mean mg mb h₀) (N : News h₀ L s.heap tabs) (hA : A.frames = some (env :: outer)) (hf : env.frame = some L) (hke : env.scope.kind = .function)
    (ho : K.lookup f = some ⟨oc, od, .func (fnOf name qual params body scope dV kV doc pm an cdv ct), osl⟩) (hcd : codeIn K cdv qual = true) (hroom : A.depth < recursionLimit)
    (hbind : BindsTo s (fnOf name qual params body scope dV kV doc pm an cdv ct) args binds) (hkind : (binds.all fun y => scope.names.lookup y.1 == some .local || scope.names.lookup y.1 == some .cell) = true)
    (hnd : ((cellsFrom 0 scope.names []).map (·.1)).Nodup)
    (h : ∀ g L' h₁ tk cells, g = hideAll s.heap (tabs.map (·.1)) → Fr g L' h₁ (bindL (envOfC qual scope L' f cdv).kindOf binds fun _ => none) → News g L' h₁ (cells ++ tabs) →
      CellsAre (bindC (envOfC qual scope L' f cdv).kindOf binds fun _ => none) (cellsFrom (L' + 1) scope.names []) cells → Below A base (env :: outer) g → K.In g → Top p loose mean mg mb g → s.heap.objs.size = L' → (∀ q ∈ tabs, q.1 < L') →
      wpAny (model prog w) (A.deeper (envOfC qual scope L' f cdv)) (execs body (envOfC qual scope L' f cdv))
        (fun fl s' => RetP Q (match fl with | .ret v => v | _ => .none) s')
        (fun e s' => wpAny (model prog w) (A.deeper (envOfC qual scope L' f cdv)) (leaving (envOfC qual scope L' f cdv) e) (fun _ s'' => E e s'') (fun e' s'' => E e' s'') s')
        { s with heap := h₁, toks := tk })
    (hco : scope.isCoroutine = false) (hgen : scope.isGenerator = false) (hk : scope.kind = .function) :
    codeAny (model prog w) A (.call (.ref f) args) (fun r s' => match r with | .ok (.ret v) => Q v s' | .ok _ => False | .error e => E e s') s := by
  have X : K.In s.heap := X₀.keeps F.keep
  obtain ⟨FG, BG, st, lv⟩ := groundX (R := fun _ _ => True) B F N hA hf hke
  refine codeAny_call_function hroom (X _ _ ho) rfl hco hgen rfl (codeRec_of X hcd) (hbind _ _ _ _ ?_)
  refine wpAny_newFunctionEnv_cells hk (kindsX hkind _) fun env' he s' x => ?_
  subst he
  refine ⟨(T.nolimit.keeps F.keep).keeps x.toInCall.keep, codeAny_func ?_⟩
  obtain ⟨h₁, tk, rfl, _⟩ := x.done
  have hk₁ := x.toInCall.keep
  obtain ⟨cells, NC, Y⟩ := Cl.news (h₀ := s.heap) (Nat.le_refl _) fun n c hm => ⟨x.cell n c (lookup_of_mem_nodup (cellsFrom_names scope.names 0 (s.heap.objs.size + 1) [] [] rfl ▸ hnd) hm), x.above n c hm⟩
  refine h _ s.heap.objs.size h₁ tk cells rfl ⟨x.toInCall.ns, fun b o e => hk₁ b o (of_hideAll _ e), Nat.le_of_eq (hideAll_size _ _)⟩ (fun q hq => ?_) Y BG (X₀.keeps st) (T.keeps st) rfl fun q hq => Heap.lt_size (N q hq).1
  rcases List.mem_append.mp hq with hq | hq
  · refine ⟨(NC q hq).1, (NC q hq).2.1, ?_⟩
    cases z : (hideAll s.heap (tabs.map (·.1))).get? q.1 with
    | none => rfl
    | some o => have := of_hideAll _ z; rw [(NC q hq).2.2] at this; cases this
  · exact ⟨hk₁ _ _ (N q hq).1, Nat.ne_of_lt (Heap.lt_size (N q hq).1), hideAll_none _ (List.mem_map_of_mem hq)⟩

/-- an answer that is a new object (the tables apart) -/
theorem NewObj.ofT {P : Obj → Prop} {g h' : Heap} {s : Shared} {as : List Addr} {L a : Addr} {o : Obj} {news : Led} (hg : g = hideAll s.heap as) (hL : s.heap.objs.size = L) (N : News g L h' news) (hm : (a, o) ∈ news) (ha : a ∉ as) (hp : P o) : NewObj P s.heap (.ref a) h' := by
  refine ⟨a, o, rfl, ?_, (N _ hm).1, hp⟩
  cases z : s.heap.get? a with
  | none => rfl
  | some o' => have := (N _ hm).2.2; rw [hg, hideAll_get _ z ha] at this; cases this
theorem lt_not {tabs : Led} {L a : Nat} (h : ∀ q ∈ tabs, q.1 < L) (ha : L ≤ a) : a ∉ tabs.map (·.1) := fun q => by
  obtain ⟨r, hr, e⟩ := List.mem_map.mp q
  have := h r hr
  rw [e] at this
  exact Nat.lt_irrefl _ (Nat.lt_of_lt_of_le this ha)

/-- a table that is filled, its code beside it -/
structure FilAt (P : Addr) (pos : Pos) (qual : Str) (g : Heap) (tout : Led) : Prop where
  ex : ∃ ps c' oc vs t, tout = [(P, tabObj ps), (c', oc)] ∧ TriplesOk ps.toList ∧ codeAmong pos ps.toList = some (.ref c') ∧ oc.data = .fields vs ∧ vs[1]? = some (.str qual t) ∧ g.get? c' = none
theorem filled_of {h₀ h : Heap} {L P c' : Addr} {pos : Pos} {qual : Str} {news : Led} {ps : Array Value} {oc : Obj} {vs : Array Value} {t : Tok} (N : News h₀ L h news) (h1 : (P, tabObj ps) ∈ news) (h2 : (c', oc) ∈ news) (h3 : TriplesOk ps.toList) (h4 : codeAmong pos ps.toList = some (.ref c')) (h5 : oc.data = .fields vs) (h6 : vs[1]? = some (.str qual t)) : Filled P pos qual h :=
  ⟨ps, c', (N _ h1).1, h3, h4, c', oc, vs, t, rfl, (N _ h2).1, h5, h6⟩

/-- a def that changes nothing old but the tables tin -/
noncomputable def PureE (prog : Program) (w : World) (K : Frag) (p : Program) (loose : List Str) (mean : ExcName → Option Value) (mg mb : Str → Option Value) (f : Addr) (dd uu : Nat) (vs : List Value) (tin : Led) (TO : Heap → Led → Prop) (Pre : Heap → Prop) (Post : Heap → Value → Heap → Prop) : Prop :=
  ∀ (dp un : Nat) (gd : Option (List Code)) (cn : Str) (cs : Scope) (a : Addr) (ccd : Value) (cl : List (Str × Addr)) (outer : List Env) (A₀ : Around) (base h₀ : Heap) (L : Addr) (m : Str → Option Value) (s : Shared) (Q E : Value → Shared → Prop),
    Below A₀ base outer h₀ → Fr h₀ L s.heap m → K.In h₀ → Top p loose mean mg mb h₀ → cs.kind = .function → dp + dd < recursionLimit → un + uu < cLine → News h₀ L s.heap tin → Pre s.heap →
    (∀ v h' tk' tout, StaysOff (tin.map (·.1)) s.heap h' → News h₀ L h' tout → TO s.heap tout → Post s.heap v h' → Q v { s with heap := h', toks := tk' }) →
    wpAny (model prog w) (ktrTop dp un gd cn cs L a ccd cl outer) (call (.ref f) vs) Q E s

theorem PureE.call {prog : Program} {w : World} {K : Frag} {p : Program} {loose : List Str} {mean : ExcName → Option Value} {mg mb : Str → Option Value} {f : Addr} {dd uu : Nat} {vs : List Value} {tin : Led} {TO : Heap → Led → Prop} {Pre : Heap → Prop} {Post : Heap → Value → Heap → Prop}
    (C : PureE prog w K p loose mean mg mb f dd uu vs tin TO Pre Post) {dp un : Nat} {gd : Option (List Code)} {cn : Str} {cs : Scope} {a : Addr} {ccd : Value} {cl : List (Str × Addr)} {outer : List Env} {A₀ : Around} {base h₀ : Heap} {L : Addr} {m : Str → Option Value} {s : Shared} {Q E : Value → Shared → Prop} {news : Led} (own : Led)
    (B : Below A₀ base outer h₀) (F : Fr h₀ L s.heap m) (X : K.In h₀) (T : Top p loose mean mg mb h₀) (N : News h₀ L s.heap news) (hk : cs.kind = .function) (hd : dp + dd < recursionLimit) (hu : un + uu < cLine) (ht : ∀ q ∈ tin, q ∈ news) (ho : ∀ q ∈ own, q ∈ news ∧ q.1 ∉ tin.map (·.1)) (hp : Pre s.heap)
    (ret : ∀ v h' tk' tout, StaysOff (tin.map (·.1)) s.heap h' → TO s.heap tout → Post s.heap v h' → Fr h₀ L h' m → News h₀ L h' (own ++ tout) → Q v { s with heap := h', toks := tk' }) :
    wpAny (model prog w) (ktrTop dp un gd cn cs L a ccd cl outer) (PySem.call (.ref f) vs) Q E s := by
  have NT : News h₀ L s.heap tin := fun q hq => N q (ht q hq)
  refine C dp un gd cn cs a ccd cl outer A₀ base h₀ L m s Q E B F X T hk hd hu NT hp fun v h' tk' tout st N' rr q => ?_
  refine ret v h' tk' tout st rr q (Fr.staysOff F NT st) (fun q hq => ?_)
  rcases List.mem_append.mp hq with hq | hq
  · exact ⟨st _ _ (ho q hq).2 (N q (ho q hq).1).1, (N q (ho q hq).1).2⟩
  · exact N' q hq
theorem News.fresh {g h' : Heap} {s : Shared} {as : List Addr} {L c : Addr} {o : Obj} {news : Led} (hg : g = hideAll s.heap as) (N : News g L h' news) (hm : (c, o) ∈ news) (hc : c ∉ as) : s.heap.get? c = none := by
  cases z : s.heap.get? c with
  | none => rfl
  | some o' => have := (N _ hm).2.2; rw [hg, hideAll_get _ z hc] at this; cases this
theorem News.back {h₀ g h' : Heap} {s : Shared} {L L' : Addr} {m : Str → Option Value} {tin tout news : Led} (F : Fr h₀ L s.heap m) (hN : News h₀ L s.heap tin) (hg : g = hideAll s.heap (tin.map (·.1))) (N : News g L' h' news) (ht : ∀ q ∈ tout, q ∈ news) : News h₀ L h' tout := fun q hq => by
  refine ⟨(N q (ht q hq)).1, ?_⟩
  by_cases hc : q.1 ∈ tin.map (·.1)
  · obtain ⟨r, hr, e⟩ := List.mem_map.mp hc
    rw [← e]; exact (hN r hr).2
  · have z := News.fresh (s := s) hg N (ht q hq) hc
    refine ⟨fun e => ?_, ?_⟩
    · obtain ⟨oL, _, _, hL, _⟩ := F.ns
      rw [e, hL] at z; cases z
    · cases y : h₀.get? q.1 with
      | none => rfl
      | some o' => have := F.keep _ _ y; rw [z] at this; cases this
theorem News.sub {h₀ h : Heap} {L : Addr} {a b : Led} (N : News h₀ L h a) (k : ∀ q ∈ b, q ∈ a) : News h₀ L h b := fun q hq => N q (k q hq)
theorem News.but {h₀ h h' : Heap} {L D : Addr} {oD oD' : Obj} {news own : Led} (N : News h₀ L h news) (st : StaysBut D h h') (hD : h'.get? D = some oD') (hm : (D, oD) ∈ news) (hx : ∀ q ∈ own, q ∈ news ∧ q.1 ≠ D) : News h₀ L h' ((D, oD') :: own) := fun q hq => by
  rcases List.mem_cons.mp hq with rfl | hq
  · exact ⟨hD, (N _ hm).2⟩
  · exact ⟨st _ _ (hx q hq).2 (N q (hx q hq).1).1, (N q (hx q hq).1).2⟩
end Mine

-- FE1E
open PySem PySem.W PyProof.Rows PyProof
set_option Elab.async false
set_option maxRecDepth 100000
set_option maxHeartbeats 8000000
set_option pp.deepTerms false
set_option pp.deepTerms.threshold 6
set_option rowWalk.seconds 0
namespace Mine

theorem i2dE_ok {w : World} {p : Program} {loose : List Str} {mean : ExcName → Option Value} {mg mb : Str → Option Value} (x : Int) (n : Nat) (tx tn : Tok) :
  PureE PySem.Challenge.rw_rs0157_02.prog w (hd2.heap_1 w.params) p loose mean mg mb 49 64 210 [.int x tx, .int n tn] [(44, tabObj #[])] (FilAt 44 (defPos (fnAt w.params 49)) (Str.ofString "_int2digits.<locals>.inner")) (fun h => 0 ≤ x ∧ x < 2 ^ 60 ∧ 1 ≤ n ∧ n ≤ 60) (NewObj (ListI (dg n x.toNat (ndig n x)))) := by
  k_fill
  k_with_none
  w_top off
  intro dp un gd cn cs a ccd cl outer A₀ base h₀ L m s Q E hB hF hX hT hcs hdp hun hN hpre hret
  refine wpAny_call ?_
  ((k_dflt (refine' code_TC ?k1 ?k2 ?k3 ?k5 ?kN ?kA ?kF ?kK ?k6 ?k7 ?k8 ?k9 ?kB ?kD ?_ ?c2 ?c3 ?c4; (case kA => exact rfl); (case kF => exact rfl); (case kK => assumption); (case k1 => k_asm); (case k2 => k_asm); (case k3 => k_asm); (case k5 => k_asm); (case kN => assumption); (case k6 => k_is); (case k7 => k_is); (case k8 => (show _ < _; dsimp only; omega)); (case k9 => exact BindsTo.of_eq rfl); (case kB => exact rfl); (case kD => decide +kernel); (case c2 => exact rfl); (case c3 => exact rfl); (case c4 => exact rfl); k_whole)))
  intro g L' h₁ tk' cells' hg F' N' Y' B' X' T' hsz hl0
  have hl44 := ltN (hl0 _ (List.Mem.head _))
  dsimp only at hl44
  clear hl0
  k_cells Y'
  (try simp only [List.cons_append, List.nil_append] at N')
  (try dsimp only); (try k_fold)
  obtain ⟨h0, h1, h2, h3⟩ := hpre
  obtain ⟨hk1, hk60, hkx⟩ := ndig_eq h2 h0 h1
  have hC : CodeHd g 48 44 := codeHd_of_K X' (by kernel_rfl)
  (repeat' ((fail_if_success (with_reducible show wpAny _ _ (binaryOp Operator.Mult (Value.ref _) _) _ _ _)); (fail_if_success (with_reducible show wpAny _ _ (exec (Stmt.FunctionDef _ _ _ _ _ _ _ _ _ _) _) _ _ _)); (fail_if_success (with_reducible show wpAny _ _ (PySem.call (Value.ref _) [_, _, _]) _ _ _)); first | (k_unfold; (try dsimp only)) | walk1 | (dsimp only; walk1) | (leave1; try dsimp only)))
  rw [hk1]
  refine mul_zero0 (by assumption) (by assumption) (by is_list) (by omega) ?_
  intro D us h' hI F' N' hlt
  k_lt hlt
  (repeat' ((fail_if_success (with_reducible show wpAny _ _ (binaryOp Operator.Mult (Value.ref _) _) _ _ _)); (fail_if_success (with_reducible show wpAny _ _ (exec (Stmt.FunctionDef _ _ _ _ _ _ _ _ _ _) _) _ _ _)); (fail_if_success (with_reducible show wpAny _ _ (PySem.call (Value.ref _) [_, _, _]) _ _ _)); first | (k_unfold; (try dsimp only)) | walk1 | (dsimp only; walk1) | (leave1; try dsimp only)))
  refine nestDef_K rfl rfl rfl ?_
  refine nest_K (by assumption) (by assumption) T' hC rfl (by k_updF) (by kn_triples) rfl rfl ?_
  intro f c1 oc1 vs1 t1 ctv doc h' tk F' N' d1 d2 l1 l2
  (try dsimp only at N')
  k_lt l1
  k_lt2 l2
  have hIl := hI.length
  rw [List.length_replicate] at hIl
  (repeat' ((fail_if_success (with_reducible show wpAny _ _ (binaryOp Operator.Mult (Value.ref _) _) _ _ _)); (fail_if_success (with_reducible show wpAny _ _ (exec (Stmt.FunctionDef _ _ _ _ _ _ _ _ _ _) _) _ _ _)); (fail_if_success (with_reducible show wpAny _ _ (PySem.call (Value.ref _) [_, _, _]) _ _ _)); first | (k_unfold; (try dsimp only)) | walk1 | (dsimp only; walk1) | (leave1; try dsimp only)))
  · refine kst_len (by assumption) (by k_mem) hIl (by omega) ?_
    (repeat' ((fail_if_success (with_reducible show wpAny _ _ (binaryOp Operator.Mult (Value.ref _) _) _ _ _)); (fail_if_success (with_reducible show wpAny _ _ (exec (Stmt.FunctionDef _ _ _ _ _ _ _ _ _ _) _) _ _ _)); (fail_if_success (with_reducible show wpAny _ _ (PySem.call (Value.ref _) [_, _, _]) _ _ _)); first | (k_unfold; (try dsimp only)) | walk1 | (dsimp only; walk1) | (leave1; try dsimp only)))
    have hk0 : 1 ≤ ndig n x := by
      rcases Nat.eq_zero_or_pos (ndig n x) with hz | hz
      · rw [hz, Nat.mul_zero] at hkx; omega
      · exact hz
    rename News g L' _ _ => NN
    refine inner_ok (ca := L' + 1 + 1) (ci := L' + 1 + 1 + 1) (cn := L' + 1) (doc := doc) (pm := _) (ctv := ctv) (c' := c1) (tn := tn) (qual := Str.ofString "_int2digits.<locals>.inner") h2 h3 rfl rfl rfl (ndig n x) hk0 hk60 _ _ _ _ _ _ us _ 0 _ _ _ _ _ _ _ _ _ _ _ g L' _ _ _ _ (by omega) (by omega) (by rw [List.length_replicate]; omega) (by rw [List.length_replicate]; omega) h0 h1 hkx B' (by assumption) X' T' rfl (by show _ < _; dsimp only; omega) (by show _ < _; dsimp only; omega) ⟨(NN _ (by k_mem)).1, ⟨c1, oc1, vs1, t1, rfl, (NN (c1, oc1) (by k_mem)).1, d1, d2⟩, ⟨_, (NN (L' + 1 + 1, _) (by k_mem)).1, by assumption⟩, ⟨_, (NN (L' + 1 + 1 + 1, _) (by k_mem)).1, by assumption⟩, ⟨_, (NN (L' + 1, _) (by k_mem)).1, by assumption⟩, ⟨_, _, (NN (D, _) (by k_mem)).1⟩⟩ (NN (D, _) (by k_mem)).1 (NN (D, _) (by k_mem)).2.2 (NN (D, _) (by k_mem)).2.1 hI ?_
    intro us2 h2 tk2 st2 hD2 hI2
    rw [show (0 : Int).toNat = 0 from rfl, put_full (by rw [dg_len, List.length_replicate])] at hI2
    have F2 := Fr.staysBut (by assumption : Fr g L' _ _) st2 (NN (D, _) (by k_mem)).2.2 (NN (D, _) (by k_mem)).2.1
    have N2 := News.but (D := D) (own := [(L' + 1 + 1, _), (44, _), (c1, _)]) NN st2 hD2 (by k_mem) (List.forall_mem_cons.mpr ⟨⟨by k_mem, by k_ne⟩, List.forall_mem_cons.mpr ⟨⟨by k_mem, by k_ne⟩, List.forall_mem_cons.mpr ⟨⟨by k_mem, by k_ne⟩, List.forall_mem_nil _⟩⟩⟩)
    clear st2 NN
    (repeat' ((fail_if_success (with_reducible show wpAny _ _ (binaryOp Operator.Mult (Value.ref _) _) _ _ _)); (fail_if_success (with_reducible show wpAny _ _ (exec (Stmt.FunctionDef _ _ _ _ _ _ _ _ _ _) _) _ _ _)); (fail_if_success (with_reducible show wpAny _ _ (PySem.call (Value.ref _) [_, _, _]) _ _ _)); first | (k_unfold; (try dsimp only)) | walk1 | (dsimp only; walk1) | (leave1; try dsimp only)))
    rename News g L' _ _ => N9
    refine hret _ _ _ [(44, _), (c1, oc1)] (stays_off hg (by assumption)) (News.back hF hN hg N9 (List.forall_mem_cons.mpr ⟨by k_mem, List.forall_mem_cons.mpr ⟨by k_mem, List.forall_mem_nil _⟩⟩)) ⟨_, c1, oc1, vs1, t1, rfl, by kn_triples, by rfl, d1, d2, News.fresh hg N9 (o := oc1) (by k_mem) (lt_not (tabs := [(44, tabObj #[])]) (L := L') (List.forall_mem_cons.mpr ⟨hl44, List.forall_mem_nil _⟩) (by show @LE.le Nat _ _ _; omega))⟩ (NewObj.ofT hg hsz N9 (List.Mem.head _) (lt_not (tabs := [(44, tabObj #[])]) (L := L') (List.forall_mem_cons.mpr ⟨hl44, List.forall_mem_nil _⟩) (by show @LE.le Nat _ _ _; omega)) ⟨_, _, rfl, hI2⟩)
  · rename x = 0 => hx
    subst hx
    rename News g L' _ _ => N9
    refine hret _ _ _ [(44, _), (c1, oc1)] (stays_off hg (by assumption)) (News.back hF hN hg N9 (List.forall_mem_cons.mpr ⟨by k_mem, List.forall_mem_cons.mpr ⟨by k_mem, List.forall_mem_nil _⟩⟩)) ⟨_, c1, oc1, vs1, t1, rfl, by kn_triples, by rfl, d1, d2, News.fresh hg N9 (o := oc1) (by k_mem) (lt_not (tabs := [(44, tabObj #[])]) (L := L') (List.forall_mem_cons.mpr ⟨hl44, List.forall_mem_nil _⟩) (by show @LE.le Nat _ _ _; omega))⟩ (NewObj.ofT hg hsz N9 (by k_mem) (lt_not (tabs := [(44, tabObj #[])]) (L := L') (List.forall_mem_cons.mpr ⟨hl44, List.forall_mem_nil _⟩) (by show @LE.le Nat _ _ _; omega)) ⟨us, 0, rfl, ?_⟩)
    rw [ndig_zero h2] at hI ⊢
    exact hI
end Mine

-- FE2E
open PySem PySem.W PyProof.Rows PyProof
set_option Elab.async false
set_option maxRecDepth 100000
set_option maxHeartbeats 8000000
set_option pp.deepTerms false
set_option pp.deepTerms.threshold 6
set_option rowWalk.seconds 0
namespace Mine

theorem d2iE_ok {w : World} {p : Program} {loose : List Str} {mean : ExcName → Option Value} {mg mb : Str → Option Value} (D : Addr) (us : List Value) (ds : List Int) (n : Nat) (tn : Tok) :
  PureE PySem.Challenge.rw_rs0157_02.prog w (hd2.heap_1 w.params) p loose mean mg mb 56 64 210 [.ref D, .int n tn] [(51, tabObj #[])] (FilAt 51 (defPos (fnAt w.params 56)) (Str.ofString "_digits2int.<locals>.inner")) (fun h => h.IsList D us.toArray ∧ IntsAre us ds ∧ ds.length ≤ 60 ∧ (∀ d ∈ ds, 0 ≤ d) ∧ ud n ds < 2 ^ 60 ∧ n ≤ 60) (IsV fun t => .int (ud n ds) t) := by
  k_fill
  k_with_none
  w_top off
  intro dp un gd cn cs a ccd cl outer A₀ base h₀ L m s Q E hB hF hX hT hcs hdp hun hN hpre hret
  refine wpAny_call ?_
  ((k_dflt (refine' code_TC ?k1 ?k2 ?k3 ?k5 ?kN ?kA ?kF ?kK ?k6 ?k7 ?k8 ?k9 ?kB ?kD ?_ ?c2 ?c3 ?c4; (case kA => exact rfl); (case kF => exact rfl); (case kK => assumption); (case k1 => k_asm); (case k2 => k_asm); (case k3 => k_asm); (case k5 => k_asm); (case kN => assumption); (case k6 => k_is); (case k7 => k_is); (case k8 => (show _ < _; dsimp only; omega)); (case k9 => exact BindsTo.of_eq rfl); (case kB => exact rfl); (case kD => decide +kernel); (case c2 => exact rfl); (case c3 => exact rfl); (case c4 => exact rfl); k_whole)))
  intro g L' h₁ tk' cells' hg F' N' Y' B' X' T' hsz hl0
  have hl51 := ltN (hl0 _ (List.Mem.head _))
  dsimp only at hl51
  clear hl0
  k_cells Y'
  (try simp only [List.cons_append, List.nil_append] at N')
  (try dsimp only); (try k_fold)
  obtain ⟨hl, hI, hlen, hpos, hud, h3⟩ := hpre
  have hl : g.IsList D us.toArray := by
    obtain ⟨o, e, hc, r⟩ := hl
    refine ⟨o, ?_, hc, r⟩
    rw [hg]
    refine hideAll_get _ e fun q => ?_
    have e2 := List.mem_singleton.mp q
    have e3 := (hN _ (List.Mem.head _)).1
    dsimp only at e3
    rw [e2, e3] at e; cases e; cases hc
  have hIl := hI.length
  have hC : CodeHd g 55 51 := codeHd_of_K X' (by kernel_rfl)
  (repeat' ((fail_if_success (with_reducible show wpAny _ _ (exec (Stmt.FunctionDef _ _ _ _ _ _ _ _ _ _) _) _ _ _)); (fail_if_success (with_reducible show wpAny _ _ (PySem.call (Value.ref _) [_, _]) _ _ _)); first | (k_unfold; (try dsimp only)) | walk1 | (dsimp only; walk1) | (leave1; try dsimp only)))
  refine nestDef_K rfl rfl rfl ?_
  refine nest_K (by assumption) (by assumption) T' hC rfl (by k_updF) (by kn_triples) rfl rfl ?_
  intro f c1 oc1 vs1 t1 ctv doc h' tk F' N' d1 d2 l1 l2
  (try dsimp only at N')
  k_lt l1
  k_lt2 l2
  (repeat' ((fail_if_success (with_reducible show wpAny _ _ (exec (Stmt.FunctionDef _ _ _ _ _ _ _ _ _ _) _) _ _ _)); (fail_if_success (with_reducible show wpAny _ _ (PySem.call (Value.ref _) [_, _]) _ _ _)); first | (k_unfold; (try dsimp only)) | walk1 | (dsimp only; walk1) | (leave1; try dsimp only)))
  · rename News g L' _ _ => NN
    have hcut : cutl ds (0 : Int).toNat ds.length = ds := by
      unfold cutl
      rw [show (0 : Int).toNat = 0 from rfl, List.drop_zero, List.take_length]
    refine inner2_ok (D := D) (cd := L' + 1) (ci := L' + 1 + 1 + 1) (cn := L' + 1 + 1) (doc := doc) (pm := _) (ctv := ctv) (c' := c1) (tn := tn) (us := us) (qual := Str.ofString "_digits2int.<locals>.inner") h3 hI hlen hpos rfl rfl rfl ds.length (by omega) hlen _ _ _ _ _ _ _ _ _ _ _ _ _ _ _ g L' _ _ _ _ (by omega) (by omega) (by omega) (by rw [hcut]; exact hud) B' (by assumption) X' T' rfl (by show _ < _; dsimp only; omega) (by show _ < _; dsimp only; omega) ⟨(NN (f, _) (by k_mem)).1, ⟨c1, oc1, vs1, t1, rfl, (NN (c1, oc1) (by k_mem)).1, d1, d2⟩, ⟨_, (NN (L' + 1, _) (by k_mem)).1, by assumption⟩, ⟨_, (NN (L' + 1 + 1 + 1, _) (by k_mem)).1, by assumption⟩, ⟨_, (NN (L' + 1 + 1, _) (by k_mem)).1, by assumption⟩, stays_list (Fr.keep (by assumption)) hl⟩ ?_
    intro t2 h2 tk2 st2
    rw [hcut]
    have F2 := Fr.stays (by assumption : Fr g L' _ _) st2
    have N9 := News.stays NN st2
    clear st2 NN
    refine hret _ _ _ [(51, _), (c1, oc1)] (stays_off hg F2) (News.back hF hN hg N9 (List.forall_mem_cons.mpr ⟨by k_mem, List.forall_mem_cons.mpr ⟨by k_mem, List.forall_mem_nil _⟩⟩)) ⟨_, c1, oc1, vs1, t1, rfl, by kn_triples, by rfl, d1, d2, News.fresh hg N9 (o := oc1) (by k_mem) (lt_not (tabs := [(51, tabObj #[])]) (L := L') (List.forall_mem_cons.mpr ⟨hl51, List.forall_mem_nil _⟩) (by show @LE.le Nat _ _ _; omega))⟩ (isV_int rfl)
  · have hz : ds = [] := List.eq_nil_of_length_eq_zero (by omega)
    rename News g L' _ _ => N9
    refine hret _ _ _ [(51, _), (c1, oc1)] (stays_off hg (by assumption)) (News.back hF hN hg N9 (List.forall_mem_cons.mpr ⟨by k_mem, List.forall_mem_cons.mpr ⟨by k_mem, List.forall_mem_nil _⟩⟩)) ⟨_, c1, oc1, vs1, t1, rfl, by kn_triples, by rfl, d1, d2, News.fresh hg N9 (o := oc1) (by k_mem) (lt_not (tabs := [(51, tabObj #[])]) (L := L') (List.forall_mem_cons.mpr ⟨hl51, List.forall_mem_nil _⟩) (by show @LE.le Nat _ _ _; omega))⟩ (isV_int ?_)
    rw [hz]; rfl
end Mine

-- BaseU
open PySem PySem.W PyProof.Rows PyProof
set_option Elab.async false
set_option maxRecDepth 100000
set_option maxHeartbeats 8000000
namespace Mine
noncomputable def Fil1At (w : World) (g : Heap) (t : Led) : Prop := FilAt 44 (defPos (fnAt w.params 49)) (Str.ofString "_int2digits.<locals>.inner") g t
noncomputable def Fil2At (w : World) (g : Heap) (t : Led) : Prop := FilAt 51 (defPos (fnAt w.params 56)) (Str.ofString "_digits2int.<locals>.inner") g t
theorem News.addD {h₀ h h' : Heap} {L a : Addr} {m : Str → Option Value} {o : Obj} {news : Led} (F : Fr h₀ L h m) (N : News h₀ L h' news) (ha : h.get? a = none) (ho : h'.get? a = some o) : News h₀ L h' ((a, o) :: news) := fun p hp => by
  rcases List.mem_cons.mp hp with rfl | hp
  · refine ⟨ho, fun e => ?_, ?_⟩
    · have e' : a = L := e
      subst e'
      obtain ⟨oL, _, _, hL, _⟩ := F.ns
      rw [ha] at hL; cases hL
    · cases q : h₀.get? a with
      | none => rfl
      | some o' => have := F.keep _ _ q; rw [ha] at this; cases this
  · exact N p hp
theorem News.neObj {h₀ h : Heap} {L a b : Addr} {o o' : Obj} {news : Led} (N : News h₀ L h news) (h1 : (a, o) ∈ news) (h2 : (b, o') ∈ news) (hne : o ≠ o') : a ≠ b := fun e => by
  have e1 := (N _ h1).1
  have e2 := (N _ h2).1
  dsimp only at e1 e2
  rw [e, e2] at e1
  exact hne (Option.some.inj e1).symm
noncomputable def Tab1 (w : World) (a : Led) : Prop := a = [(44, tabObj #[])] ∨ ∃ g, Fil1At w g a
noncomputable def Tab2 (w : World) (b : Led) : Prop := b = [(51, tabObj #[])] ∨ ∃ g, Fil2At w g b
/-- the two tables of codes, each empty or filled, the codes beside them -/
noncomputable def TabsOn (w : World) (t : Led) : Prop := ∃ a b, t = a ++ b ∧ Tab1 w a ∧ Tab2 w b
noncomputable def FilA (w : World) (t : Led) : Prop := ∃ a b, t = a ++ b ∧ (∃ g, Fil1At w g a) ∧ Tab2 w b
noncomputable def FilT (w : World) (t : Led) : Prop := ∃ a b, t = a ++ b ∧ (∃ g, Fil1At w g a) ∧ ∃ g, Fil2At w g b
theorem FilA.on {w : World} {t : Led} (h : FilA w t) : TabsOn w t := let ⟨a, b, e, h1, h2⟩ := h; ⟨a, b, e, .inr h1, h2⟩
theorem FilT.on {w : World} {t : Led} (h : FilT w t) : TabsOn w t := let ⟨a, b, e, h1, h2⟩ := h; ⟨a, b, e, .inr h1, .inr h2⟩
theorem FilAt.two {P : Addr} {pos : Pos} {qual : Str} {g : Heap} {t : Led} (h : FilAt P pos qual g t) : t.length = 2 := by
  obtain ⟨ps, c', oc, vs, t', rfl, _⟩ := h; rfl
theorem FilT.four {w : World} {t : Led} (h : FilT w t) : t.length = 4 := by
  obtain ⟨a, b, rfl, ⟨_, h1⟩, ⟨_, h2⟩⟩ := h
  rw [List.length_append, h1.two, h2.two]
theorem not_filT {w : World} {b : Led} (h : FilT w ([(44, tabObj #[])] ++ b)) : False := by
  obtain ⟨a2, b2, e, ⟨_, h1⟩, _⟩ := h
  obtain ⟨ps, c', oc, vs, t', rfl, _, h4, _⟩ := h1
  have e1 := (List.cons.inj e).1
  have e2 : tabObj #[] = tabObj ps := (Prod.mk.inj e1).2
  have e3 : #[] = ps := Data.fields.inj (congrArg Obj.data e2)
  rw [← e3] at h4
  cases h4
/-- what a call makes of the tables t -/
noncomputable def TabsTo (w : World) (t : Led) (g : Heap) (t' : Led) : Prop := TabsOn w t' ∧ (∀ q ∈ t', q.1 ∈ t.map (·.1) ∨ g.get? q.1 = none) ∧ (∀ a ∈ t.map (·.1), a ∈ t'.map (·.1)) ∧ (FilT w t → t' = t)
theorem TabsOn.empty (w : World) : TabsOn w [(44, tabObj #[]), (51, tabObj #[])] := ⟨[_], [_], rfl, .inl rfl, .inl rfl⟩
theorem FilAt.like {P : Addr} {pos : Pos} {qual : Str} {g : Heap} {t : Led} (h : FilAt P pos qual g t) : ∀ q ∈ t, ∃ vs, q.2.data = .fields vs := by
  obtain ⟨ps, c', oc, vs, t', rfl, _, _, h5, _⟩ := h
  exact List.forall_mem_cons.mpr ⟨⟨ps, rfl⟩, List.forall_mem_cons.mpr ⟨⟨vs, h5⟩, List.forall_mem_nil _⟩⟩
theorem TabsOn.like {w : World} {t : Led} (h : TabsOn w t) : ∀ q ∈ t, ∃ vs, q.2.data = .fields vs := by
  obtain ⟨a, b, rfl, ha, hb⟩ := h
  intro q hq
  rcases List.mem_append.mp hq with hq | hq
  · rcases ha with rfl | ⟨g, ha⟩
    · obtain rfl := List.mem_singleton.mp hq; exact ⟨_, rfl⟩
    · exact ha.like q hq
  · rcases hb with rfl | ⟨g, hb⟩
    · obtain rfl := List.mem_singleton.mp hq; exact ⟨_, rfl⟩
    · exact hb.like q hq
theorem News.ne2 {h₀ h : Heap} {L : Addr} {n1 n2 : Led} {p q : Addr × Obj} (N1 : News h₀ L h n1) (N2 : News h₀ L h n2) (h1 : p ∈ n1) (h2 : q ∈ n2) (hne : p.2 ≠ q.2) : p.1 ≠ q.1 := fun e => by
  have e1 := (N1 _ h1).1
  have e2 := (N2 _ h2).1
  rw [e, e2] at e1
  exact hne (Option.some.inj e1).symm
theorem TabsOn.off {w : World} {t news : Led} {h₀ h : Heap} {L a : Addr} {o : Obj} (H : TabsOn w t) (N : News h₀ L h news) (m : (a, o) ∈ news) (ms : ∀ q ∈ t, q ∈ news) (hd : ∀ vs, o.data ≠ .fields vs) : ∀ q ∈ t, q.1 ≠ a := fun q hq => by
  obtain ⟨vs, hv⟩ := H.like q hq
  exact News.ne2 (p := q) (q := (a, o)) N N (ms q hq) m fun e => hd vs (by rw [← hv, e])
theorem StaysOff.more {as bs : List Addr} {h h' : Heap} (k : StaysOff as h h') (hs : ∀ a ∈ as, a ∈ bs) : StaysOff bs h h' := fun b o hb e => k b o (fun q => hb (hs _ q)) e
theorem FilAt.off {P Q : Addr} {pos : Pos} {qual : Str} {g h₀ h : Heap} {L : Addr} {t news : Led} (H : FilAt P pos qual g t) (hPQ : P ≠ Q) (N : News h₀ L h t) (N2 : News h₀ L h news) (hm : (Q, tabObj #[]) ∈ news) : ∀ q ∈ t, q.1 ≠ Q := by
  obtain ⟨ps, c', oc, vs, t', rfl, _, _, h5, h6, _⟩ := H
  refine List.forall_mem_cons.mpr ⟨hPQ, List.forall_mem_cons.mpr ⟨?_, List.forall_mem_nil _⟩⟩
  refine News.ne2 (p := (c', oc)) N N2 (.tail _ (.head _)) hm fun e => ?_
  have e' : oc = tabObj #[] := e
  rw [e'] at h5
  obtain rfl : #[] = vs := Data.fields.inj h5
  simp at h6
theorem filled_led {P : Addr} {pos : Pos} {qual : Str} {g h : Heap} {t : Led} (H : FilAt P pos qual g t) (hh : ∀ q ∈ t, h.get? q.1 = some q.2) : Filled P pos qual h := by
  obtain ⟨ps, c', oc, vs, t', rfl, h3, h4, h5, h6, _⟩ := H
  exact ⟨ps, c', hh _ (.head _), h3, h4, c', oc, vs, t', rfl, hh _ (.tail _ (.head _)), h5, h6⟩
theorem mem_fst {l : Led} {q : Addr × Obj} (h : q ∈ l) : q.1 ∈ l.map (·.1) := List.mem_map_of_mem (f := (·.1)) h

theorem i2dU_ok {w : World} {p : Program} {loose : List Str} {mean : ExcName → Option Value} {mg mb : Str → Option Value} (x : Int) (n : Nat) (tx tn : Tok) (t : Led) (ht : TabsOn w t) :
  PureE PySem.Challenge.rw_rs0157_02.prog w (hd2.heap_1 w.params) p loose mean mg mb 49 64 210 [.int x tx, .int n tn] t (fun g t' => TabsTo w t g t' ∧ FilA w t') (fun h => 0 ≤ x ∧ x < 2 ^ 60 ∧ 1 ≤ n ∧ n ≤ 60) (NewObj (ListI (dg n x.toNat (ndig n x)))) := by
  obtain ⟨a, b, rfl, ha, hb⟩ := ht
  intro dp un gd cn cs ad ccd cl outer A₀ base h₀ L m s Q E hB hF hX hT hcs hdp hun hN hpre hret
  have Na : News h₀ L s.heap a := fun q hq => hN q (List.mem_append_left _ hq)
  have Nb : News h₀ L s.heap b := fun q hq => hN q (List.mem_append_right _ hq)
  rcases ha with rfl | ⟨g0, hfa⟩
  · refine i2dE_ok x n tx tn dp un gd cn cs ad ccd cl outer A₀ base h₀ L m s Q E hB hF hX hT hcs hdp hun Na hpre fun v h' tk' tout st N' fil post => ?_
    have hoff : ∀ q ∈ b, q.1 ≠ 44 := by
      rcases hb with rfl | ⟨g, hb⟩
      · exact List.forall_mem_cons.mpr ⟨show (51 : Nat) ≠ 44 by decide, List.forall_mem_nil _⟩
      · exact hb.off (show (51 : Nat) ≠ 44 by decide) Nb Na (.head _)
    refine hret v h' tk' (tout ++ b) (st.more fun q hq => ?_) (fun q hq => ?_) ⟨⟨⟨tout, b, rfl, .inr ⟨_, fil⟩, hb⟩, fun q hq => ?_, fun x hx => ?_, fun z => (not_filT z).elim⟩, ⟨tout, b, rfl, ⟨_, fil⟩, hb⟩⟩ post
    · rw [List.map_append]; exact List.mem_append_left _ hq
    · rcases List.mem_append.mp hq with hq | hq
      · exact N' q hq
      · exact ⟨st _ _ (fun z => hoff q hq (List.mem_singleton.mp z)) (Nb q hq).1, (Nb q hq).2⟩
    · rcases List.mem_append.mp hq with hq | hq
      · obtain ⟨ps, c', oc, vs, t', rfl, _, _, _, _, h7⟩ := fil
        rcases List.mem_cons.mp hq with rfl | hq
        · exact .inl (.head _)
        · obtain rfl := List.mem_singleton.mp hq; exact .inr h7
      · exact .inl (mem_fst (List.mem_append_right _ hq))
    · rw [List.map_append] at hx ⊢
      rcases List.mem_append.mp hx with hx | hx
      · obtain ⟨ps, c', oc, vs, t', rfl, _⟩ := fil
        obtain rfl := List.mem_singleton.mp hx
        exact List.mem_append_left _ (.head _)
      · exact List.mem_append_right _ hx
  · refine i2dF_ok x n tx tn dp un gd cn cs ad ccd cl outer A₀ base h₀ L m s Q E hB hF hX hT hcs hdp hun ⟨hpre.1, hpre.2.1, hpre.2.2.1, hpre.2.2.2, filled_led hfa fun q hq => (Na q hq).1⟩ fun v h' tk' k post => ?_
    exact hret v h' tk' _ (fun c o _ e => k _ _ e) (News.stays hN k) ⟨⟨⟨a, b, rfl, .inr ⟨g0, hfa⟩, hb⟩, fun q hq => .inl (mem_fst hq), fun _ h => h, fun _ => rfl⟩, ⟨a, b, rfl, ⟨g0, hfa⟩, hb⟩⟩ post

theorem d2iU_ok {w : World} {p : Program} {loose : List Str} {mean : ExcName → Option Value} {mg mb : Str → Option Value} (D : Addr) (us : List Value) (ds : List Int) (n : Nat) (tn : Tok) (t : Led) (ht : FilA w t) :
  PureE PySem.Challenge.rw_rs0157_02.prog w (hd2.heap_1 w.params) p loose mean mg mb 56 64 210 [.ref D, .int n tn] t (fun g t' => TabsTo w t g t' ∧ FilT w t') (fun h => h.IsList D us.toArray ∧ IntsAre us ds ∧ ds.length ≤ 60 ∧ (∀ d ∈ ds, 0 ≤ d) ∧ ud n ds < 2 ^ 60 ∧ n ≤ 60) (IsV fun t => .int (ud n ds) t) := by
  obtain ⟨a, b, rfl, ha, hb⟩ := ht
  intro dp un gd cn cs ad ccd cl outer A₀ base h₀ L m s Q E hB hF hX hT hcs hdp hun hN hpre hret
  have Na : News h₀ L s.heap a := fun q hq => hN q (List.mem_append_left _ hq)
  have Nb : News h₀ L s.heap b := fun q hq => hN q (List.mem_append_right _ hq)
  rcases hb with rfl | ⟨g0, hfb⟩
  · refine d2iE_ok D us ds n tn dp un gd cn cs ad ccd cl outer A₀ base h₀ L m s Q E hB hF hX hT hcs hdp hun Nb hpre fun v h' tk' tout st N' fil post => ?_
    have hoff : ∀ q ∈ a, q.1 ≠ 51 := by
      obtain ⟨g, ha⟩ := ha
      exact ha.off (show (44 : Nat) ≠ 51 by decide) Na Nb (.head _)
    refine hret v h' tk' (a ++ tout) (st.more fun q hq => ?_) (fun q hq => ?_) ⟨⟨⟨a, tout, rfl, .inr ha, .inr ⟨_, fil⟩⟩, fun q hq => ?_, fun x hx => ?_, fun z => ?_⟩, ⟨a, tout, rfl, ha, ⟨_, fil⟩⟩⟩ post
    · rw [List.map_append]; exact List.mem_append_right _ hq
    · rcases List.mem_append.mp hq with hq | hq
      · exact ⟨st _ _ (fun z => hoff q hq (List.mem_singleton.mp z)) (Na q hq).1, (Na q hq).2⟩
      · exact N' q hq
    · rcases List.mem_append.mp hq with hq | hq
      · exact .inl (mem_fst (List.mem_append_left _ hq))
      · obtain ⟨ps, c', oc, vs, t', rfl, _, _, _, _, h7⟩ := fil
        rcases List.mem_cons.mp hq with rfl | hq
        · exact .inl (mem_fst (q := (51, tabObj #[])) (List.mem_append_right _ (.head _)))
        · obtain rfl := List.mem_singleton.mp hq; exact .inr h7
    · rw [List.map_append] at hx ⊢
      rcases List.mem_append.mp hx with hx | hx
      · exact List.mem_append_left _ hx
      · obtain ⟨ps, c', oc, vs, t', rfl, _⟩ := fil
        obtain rfl := List.mem_singleton.mp hx
        exact List.mem_append_right _ (.head _)
    · have z4 := z.four
      obtain ⟨g, ha⟩ := ha
      rw [List.length_append, ha.two] at z4
      simp at z4
  · refine d2iF_ok D us ds n tn dp un gd cn cs ad ccd cl outer A₀ base h₀ L m s Q E hB hF hX hT hcs hdp hun ⟨hpre.1, hpre.2.1, hpre.2.2.1, hpre.2.2.2.1, hpre.2.2.2.2.1, hpre.2.2.2.2.2, filled_led hfb fun q hq => (Nb q hq).1⟩ fun v h' tk' k post => ?_
    exact hret v h' tk' _ (fun c o _ e => k _ _ e) (News.stays hN k) ⟨⟨⟨a, b, rfl, .inr ha, .inr ⟨g0, hfb⟩⟩, fun q hq => .inl (mem_fst hq), fun _ h => h, fun _ => rfl⟩, ⟨a, b, rfl, ha, ⟨g0, hfb⟩⟩⟩ post
theorem up_of {g h1 : Heap} {s : Shared} {L : Addr} {m : Str → Option Value} {t t1 n1 : Led} (hg : g = hideAll s.heap (t.map (·.1))) (F : Fr g L h1 m) (N : News g L h1 n1) (hs : ∀ q ∈ t1, q ∈ n1) (ht : ∀ a ∈ t.map (·.1), a ∈ t1.map (·.1)) : ∀ a, h1.get? a = none → s.heap.get? a = none := fun a ha => by
  cases z : s.heap.get? a with
  | none => rfl
  | some o =>
    exfalso
    by_cases hm : a ∈ t.map (·.1)
    · obtain ⟨r, hr, e⟩ := List.mem_map.mp (ht a hm)
      have := (N r (hs r hr)).1
      rw [e, ha] at this; cases this
    · have := F.keep a o (by rw [hg]; exact hideAll_get _ z hm)
      rw [ha] at this; cases this
theorem TabsTo.up {w : World} {t t1 : Led} {g1 g : Heap} (h : TabsTo w t g1 t1) (hu : ∀ a, g1.get? a = none → g.get? a = none) : TabsTo w t g t1 := ⟨h.1, fun q hq => (h.2.1 q hq).imp id (hu _), h.2.2⟩
theorem TabsTo.trans {w : World} {t t1 t2 : Led} {g : Heap} (h1 : TabsTo w t g t1) (h2 : TabsTo w t1 g t2) : TabsTo w t g t2 := ⟨h2.1, fun q hq => by
  rcases h2.2.1 q hq with h | h
  · obtain ⟨r, hr, e⟩ := List.mem_map.mp h
    rw [← e]; exact h1.2.1 r hr
  · exact .inr h, fun a ha => h2.2.2.1 a (h1.2.2.1 a ha), fun z => by
    have e := h1.2.2.2 z
    subst e
    exact h2.2.2.2 z⟩
theorem TabsTo.notin {w : World} {t t2 news : Led} {g h₀ h : Heap} {L a : Addr} {o : Obj} (H : TabsTo w t g t2) (N : News h₀ L h news) (m : (a, o) ∈ news) (ms : ∀ q ∈ t2, q ∈ news) (hd : ∀ vs, o.data ≠ .fields vs) : a ∉ t.map (·.1) := fun hm => by
  obtain ⟨r, hr, e⟩ := List.mem_map.mp (H.2.2.1 a hm)
  exact H.1.off N m ms hd r hr e
theorem list_hide {w : World} {t : Led} {h₀ g : Heap} {s : Shared} {L D : Addr} {us : Array Value} (H : TabsOn w t) (N : News h₀ L s.heap t) (hg : g = hideAll s.heap (t.map (·.1))) (hl : s.heap.IsList D us) : g.IsList D us := by
  obtain ⟨o, e, hc, vs, hd⟩ := hl
  refine ⟨o, ?_, hc, vs, hd⟩
  rw [hg]
  refine hideAll_get _ e fun q => ?_
  obtain ⟨r, hr, e2⟩ := List.mem_map.mp q
  have e3 := (N r hr).1
  rw [e2, e] at e3
  obtain ⟨ws, hw⟩ := H.like r hr
  rw [← Option.some.inj e3, hd] at hw
  cases hw
theorem allLt_ne {d : Addr} : ∀ {l : Led}, AllLt d l → ∀ q ∈ l, q.1 ≠ d
  | [], _, _, h => nomatch h
  | p :: r, h, q, hq => by
    rcases List.mem_cons.mp hq with rfl | hq
    · exact Nat.ne_of_lt h.1
    · exact allLt_ne h.2 q hq
theorem OwnOff.one {l : Led} {a : Addr} (h : ∀ q ∈ l, q.1 ≠ a) : OwnOff l [a] := fun q hq b hb => by
  rw [List.mem_singleton.mp hb]; exact h q hq
theorem dmp_bd {b r k : Int} (hb0 : 0 < b) (hb30 : b < 2 ^ 30) (hn30 : Builtin.Int.intBits b ≤ 30) (hrr : 0 ≤ r ∧ r < b) (hkm : 0 ≤ k ∧ k < 2 ^ Builtin.Int.intBits b) : 0 ≤ r * 2 ^ (Builtin.Int.intBits b : Int).toNat ∧ r * 2 ^ (Builtin.Int.intBits b : Int).toNat + k < 2 ^ 60 := by
  rw [Int.toNat_natCast]
  refine ⟨Int.mul_nonneg hrr.1 (Int.le_of_lt (Int.pow_pos (by decide))), ?_⟩
  have e1 : r * 2 ^ Builtin.Int.intBits b ≤ (b - 1) * 2 ^ Builtin.Int.intBits b := Int.mul_le_mul_of_nonneg_right (by omega) (Int.le_of_lt (Int.pow_pos (by decide)))
  have e2 : (2 : Int) ^ Builtin.Int.intBits b ≤ 2 ^ 30 := by
    have := Nat.pow_le_pow_right (n := 2) (by decide) hn30
    exact_mod_cast this
  have e3 : b * 2 ^ Builtin.Int.intBits b ≤ 2 ^ 30 * 2 ^ 30 := Int.mul_le_mul (by omega) e2 (Int.le_of_lt (Int.pow_pos (by decide))) (by decide)
  rw [Int.sub_mul] at e1
  generalize (2 : Int) ^ Builtin.Int.intBits b = z at *
  omega
end Mine

-- FU3
open PySem PySem.W PyProof.Rows PyProof
set_option Elab.async false
set_option maxRecDepth 100000
set_option maxHeartbeats 8000000
set_option pp.deepTerms false
set_option pp.deepTerms.threshold 6
set_option rowWalk.seconds 0
namespace Mine
theorem dmpU_ok {w : World} {p : Program} {loose : List Str} {mean : ExcName → Option Value} {mg mb : Str → Option Value} (x b : Int) (tx tb : Tok) (t : Led) (ht : TabsOn w t) :
  PureE PySem.Challenge.rw_rs0157_02.prog w (hd2.heap_1 w.params) p loose mean mg mb 63 66 216 [.int x tx, .int b tb] t (fun g t' => TabsTo w t g t' ∧ FilT w t') (fun h => 0 ≤ x ∧ x < 2 ^ 50 ∧ 0 < b ∧ b < 2 ^ 30) (NewObj (Tup2I (x.fdiv b) (x.fmod b))) := by
  k_fill
  k_with_none
  w_top off
  intro dp un gd cn cs a ccd cl outer A₀ base h₀ L m s Q E hB hF hX hT hcs hdp hun hN hpre hret
  refine wpAny_call ?_
  ((k_dflt (refine' code_T ?k1 ?k2 ?k3 ?k5 ?kN ?kA ?kF ?kK ?k6 ?k7 ?k8 ?k9 ?kB ?_ ?c2 ?c3 ?c4 ?c5; (case kA => exact rfl); (case kF => exact rfl); (case kK => assumption); (case k1 => k_asm); (case k2 => k_asm); (case k3 => k_asm); (case k5 => k_asm); (case kN => assumption); (case k6 => k_is); (case k7 => k_is); (case k8 => (show _ < _; dsimp only; omega)); (case k9 => exact BindsTo.of_eq rfl); (case c5 => decide); (case kB => exact locs rfl); (case c2 => exact rfl); (case c3 => exact rfl); (case c4 => exact rfl); k_whole)))
  intro g L' h₁ hg F' N' B' X' T' hsz hl0
  (try dsimp only); (try k_fold)
  obtain ⟨h0, h1, hb0, hb30⟩ := hpre
  have hn1 : 1 ≤ Builtin.Int.intBits b := by
    rcases Nat.eq_zero_or_pos (Builtin.Int.intBits b) with hz | hz
    · have := (intBits_le_iff (m := 0) (x := b)).mp (by omega)
      simp at this; omega
    · exact hz
  have hn30 : Builtin.Int.intBits b ≤ 30 := (intBits_le_iff (m := 30) (x := b)).mpr (by omega)
  have hb2 : b < 2 ^ Builtin.Int.intBits b := by
    have := (intBits_le_iff (m := Builtin.Int.intBits b) (x := b)).mp (Nat.le_refl _)
    have h6 : ((b.natAbs : Nat) : Int) < ((2 ^ Builtin.Int.intBits b : Nat) : Int) := by exact_mod_cast this
    rw [show ((b.natAbs : Nat) : Int) = b by omega] at h6
    exact_mod_cast h6
  (repeat' ((fail_if_success (with_reducible show wpAny _ _ (pyIter _) _ _ _)); (fail_if_success (with_reducible show wpAny _ _ (PySem.call (Value.ref 49) _) _ _ _)); (fail_if_success (with_reducible show wpAny _ _ (PySem.call (Value.ref 35) _) _ _ _)); (fail_if_success (with_reducible show wpAny _ _ (PySem.call (Value.ref 56) _) _ _ _)); first | (k_unfold; (try dsimp only)) | walk1 | (dsimp only; walk1) | (leave1; try dsimp only)))
  obtain ⟨hk1, hk60, hkx⟩ := ndig_eq hn1 h0 (show x < 2 ^ 60 by omega)
  clear hl0
  rename News g L' _ _ => N0
  rename Fr g L' _ _ => F0
  refine PureE.call (i2dU_ok x (Builtin.Int.intBits b) _ _ t ht) [] B' F0 X' T' N0 rfl (by show _ < _; dsimp only; omega) (by show _ < _; dsimp only; omega) (fun _ h => h) (List.forall_mem_nil _) ⟨h0, by omega, hn1, by omega⟩ ?_
  rintro v h2 tk2 t1 st2 ⟨hto1, hfa1⟩ ⟨D, o, rfl, hD0, hD1, us, c, rfl, hI⟩ F2 N2
  have N3 := News.addD F0 N2 hD0 hD1
  rw [List.nil_append] at N3
  have hDt : OwnOff t1 [D] := fun q hq b hb => by
    rw [List.mem_singleton.mp hb]
    exact hto1.1.off N3 (List.Mem.head _) (fun q hq => List.Mem.tail _ hq) (fun vs e => by cases e) q hq
  have up1 := hto1.up (up_of hg F0 N0 (fun _ h => h) fun _ h => h)
  clear N2 st2 hD0 hD1 N0 F0
  have hIl := hI.length
  rw [dg_len] at hIl
  (repeat' ((fail_if_success (with_reducible show wpAny _ _ (pyIter _) _ _ _)); (fail_if_success (with_reducible show wpAny _ _ (PySem.call (Value.ref 49) _) _ _ _)); (fail_if_success (with_reducible show wpAny _ _ (PySem.call (Value.ref 35) _) _ _ _)); (fail_if_success (with_reducible show wpAny _ _ (PySem.call (Value.ref 56) _) _ _ _)); first | (k_unfold; (try dsimp only)) | walk1 | (dsimp only; walk1) | (leave1; try dsimp only)))
  rename News g L' _ _ => NN
  rename Fr g L' _ _ => FF
  rename_i lq hq4 hlq hq5 I hq7 hlI
  have hnDI : D ≠ I := by (refine neN ?_); omega
  have hnqI : lq ≠ I := by (refine neN ?_); omega
  have hnqD : lq ≠ D := by (refine neN ?_); omega
  have htI := allLt_ne hlI.2.2
  have htq : OwnOff t1 [lq] := OwnOff.one (allLt_ne hlq.2)
  refine kst_rev (σ := (Int × Nat) × (List Value × List Int × Nat)) (l := D) (vs := us) (fun c => (lq, listOf (List.toArray c.2.1) c.2.2.2) :: t1) (fun c => [(Str.ofString "r", .int c.1.1 c.1.2)]) (fun c => IntsAre c.2.1 c.2.2.1) [Str.ofString "q_digit"]
    (fun pre c => c.1.1 = (dm (Builtin.Int.intBits b) b pre.reverse).2 ∧ c.2.2.1 = (dm (Builtin.Int.intBits b) b pre.reverse).1.reverse) ((0, _), ([], [], 0)) rfl (NN (I, _) (by k_mem)).1 ⟨_, (NN (D, _) (by k_mem)).1, rfl, c, rfl⟩ hI hnDI (NN (I, _) (by k_mem)).2.2 (Ne.symm (NN (I, _) (by k_mem)).2.1) (Ne.symm (NN (D, _) (by k_mem)).2.1) FF (News.sub NN (List.forall_mem_cons.mpr ⟨by k_mem, fun q hq => List.Mem.tail _ (List.Mem.tail _ (List.Mem.tail _ hq))⟩)) (List.forall_mem_cons.mpr ⟨⟨hnqI, hnqD⟩, fun q hq => ⟨htI q hq, hDt q hq D (List.Mem.head _)⟩⟩) IntsAre.nil (by kst_all) ⟨rfl, rfl⟩ ?_ ?_
  · intro c pre post k t u h tk own hsplit hoff hfacts hP F' N'
    obtain ⟨⟨r, tr⟩, ⟨qv, qs, ep⟩⟩ := c
    dsimp only [kstB] at hfacts hP F' N'
    obtain ⟨hP1, hP2⟩ := hP
    have hlen := congrArg List.length hsplit
    simp only [List.length_reverse, List.length_append, List.length_cons, dg_len] at hlen
    have kMark := kstMark
    have hqv := hfacts.length
    have hql : qs.length = pre.length := by rw [hP2, List.length_reverse, dm_len, List.length_reverse]
    have hkm := dg_nonneg (Builtin.Int.intBits b) (ndig (Builtin.Int.intBits b) x) x.toNat k (by rw [← List.mem_reverse, hsplit]; simp)
    have hrr := dm_rest (n := Builtin.Int.intBits b) hb0 pre.reverse
    rw [← hP1] at hrr
    obtain ⟨hv0, hv1⟩ := dmp_bd hb0 hb30 hn30 hrr hkm
    have hq9 : OwnOff (t1 ++ own) [lq] := fun q hq b hb => by
      rw [List.mem_singleton.mp hb]
      rcases List.mem_append.mp hq with hq | hq
      · exact htq q hq lq (List.Mem.head _)
      · exact hoff q hq lq (List.Mem.head _)
    rw [List.cons_append] at N'
    (try dsimp only); (try k_fold)
    (repeat' ((fail_if_success (with_reducible show wpAny _ _ (pyIter _) _ _ _)); (fail_if_success (with_reducible show wpAny _ _ (PySem.call (Value.ref 49) _) _ _ _)); (fail_if_success (with_reducible show wpAny _ _ (PySem.call (Value.ref 35) _) _ _ _)); (fail_if_success (with_reducible show wpAny _ _ (PySem.call (Value.ref 56) _) _ _ _)); first | (k_unfold; (try dsimp only)) | walk1 | (dsimp only; walk1) | (leave1; try dsimp only)))
    rename Fr g L' _ _ => FF
    rename News g L' _ _ => NN
    refine Pure.call (div2_ok _ _ _ _ _ _) B' FF X' T' NN rfl (by show _ < _; dsimp only; omega) (by show _ < _; dsimp only; omega) (by (try dsimp only); omega) ?_
    rintro v h6 tk6 st6 ⟨D6, o6, rfl, hD60, hD61, t61, t62, rfl⟩ F6 N6
    have N7 := News.addN FF NN st6 hD60 hD61
    have hne6 := News.neN NN hD60
    clear N6 st6 hD61 hD60 FF NN
    simp only [List.forall_mem_cons] at hne6
    have hnn6 := neN hne6.1
    (try dsimp only)
    (repeat' ((fail_if_success (with_reducible show wpAny _ _ (pyIter _) _ _ _)); (fail_if_success (with_reducible show wpAny _ _ (PySem.call (Value.ref 49) _) _ _ _)); (fail_if_success (with_reducible show wpAny _ _ (PySem.call (Value.ref 35) _) _ _ _)); (fail_if_success (with_reducible show wpAny _ _ (PySem.call (Value.ref 56) _) _ _ _)); first | (k_unfold; (try dsimp only)) | walk1 | (dsimp only; walk1) | (leave1; try dsimp only)))
    rename News g L' _ _ => N9
    rename Fr g L' _ _ => F9
    (try simp only [List.push_toArray] at N9)
    refine kst_end (((r * 2 ^ (Builtin.Int.intBits b : Int).toNat + k).fmod b, _), (qv ++ [.int ((r * 2 ^ (Builtin.Int.intBits b : Int).toNat + k).fdiv b) _], qs ++ [(r * 2 ^ (Builtin.Int.intBits b : Int).toNat + k).fdiv b], ep + 1)) F9 N9 (List.forall_mem_cons.mpr ⟨by k_mem, fun q hq => List.Mem.tail _ (List.Mem.tail _ (List.mem_append_left _ hq))⟩) (fun p hp => List.Mem.tail _ (List.Mem.tail _ (List.mem_append_right _ hp))) rfl (IntsAre.append hfacts (IntsAre.cons _ _ IntsAre.nil)) (by kst_all) (by kst_same) ?_
    refine ⟨?_, ?_⟩
    · rw [List.reverse_append, List.reverse_singleton, List.singleton_append, hP1]; simp only [dm, Int.toNat_natCast]
    · rw [List.reverse_append, List.reverse_singleton, List.singleton_append, hP1, hP2]; simp only [dm, Int.toNat_natCast, List.reverse_cons]
  · intro c u h tk hfacts hP F' N'
    obtain ⟨⟨r, tr⟩, ⟨qv, qs, ep⟩⟩ := c
    dsimp only [kstB] at hfacts hP F' N'
    obtain ⟨hP1, hP2⟩ := hP
    rw [List.reverse_reverse] at hP1 hP2
    have kMark := kstMark
    have hqv := hfacts.length
    have hql : qs.length = ndig (Builtin.Int.intBits b) x := by rw [hP2, List.length_reverse, dm_len, dg_len]
    have hap : ∀ p ∈ t1, p.1 ≠ lq := allLt_ne hlq.2
    (try dsimp only); (try k_fold)
    (repeat' ((fail_if_success (with_reducible show wpAny _ _ (pyIter _) _ _ _)); (fail_if_success (with_reducible show wpAny _ _ (PySem.call (Value.ref 49) _) _ _ _)); (fail_if_success (with_reducible show wpAny _ _ (PySem.call (Value.ref 35) _) _ _ _)); (fail_if_success (with_reducible show wpAny _ _ (PySem.call (Value.ref 56) _) _ _ _)); first | (k_unfold; (try dsimp only)) | walk1 | (dsimp only; walk1) | (leave1; try dsimp only)))
    with_unfolding_all refine reverse_head_ints (by assumption) (by assumption) hap (by assumption) ?_
    intro _ _ _ _
    (repeat' ((fail_if_success (with_reducible show wpAny _ _ (pyIter _) _ _ _)); (fail_if_success (with_reducible show wpAny _ _ (PySem.call (Value.ref 49) _) _ _ _)); (fail_if_success (with_reducible show wpAny _ _ (PySem.call (Value.ref 35) _) _ _ _)); (fail_if_success (with_reducible show wpAny _ _ (PySem.call (Value.ref 56) _) _ _ _)); first | (k_unfold; (try dsimp only)) | walk1 | (dsimp only; walk1) | (leave1; try dsimp only)))
    rename IntsAre (List.reverse _) _ => hI9
    rename News g _ _ _ => N9
    rename Fr g _ _ _ => F9
    rw [hP2, List.reverse_reverse] at hI9
    have hq0 := dm_nonneg (n := Builtin.Int.intBits b) hb0 (dg (Builtin.Int.intBits b) x.toNat (ndig (Builtin.Int.intBits b) x)) (fun d hd => (dg_nonneg _ _ _ d hd).1)
    obtain ⟨hd1, hd2⟩ := dm_div hb0 h0 hkx
    have hq60 : x.fdiv b < 2 ^ 60 := by
      rw [Int.fdiv_eq_ediv_of_nonneg _ (by omega)]
      have := Int.ediv_le_self b h0
      omega
    rw [hd2] at hP1
    subst hP1
    refine PureE.call (d2iU_ok lq _ _ (Builtin.Int.intBits b) _ t1 hfa1) [] B' F9 X' T' N9 rfl (by show _ < _; dsimp only; omega) (by show _ < _; dsimp only; omega) (fun q hq => List.Mem.tail _ hq) (List.forall_mem_nil _) ⟨⟨_, (N9 _ (List.Mem.head _)).1, rfl, ep, rfl⟩, hI9, by rw [dm_len, dg_len]; exact hk60, hq0, by rw [hd1]; exact hq60, by omega⟩ ?_
    rintro v h4 tk4 t2 st4 ⟨hto2, hft2⟩ ⟨t4, rfl⟩ F4 N4
    have up2 := up1.trans (hto2.up (up_of hg F9 N9 (fun q hq => List.Mem.tail _ hq) hto1.2.2.1))
    clear F9 N9 st4
    rw [List.nil_append] at N4
    rw [hd1]
    (repeat' ((fail_if_success (with_reducible show wpAny _ _ (pyIter _) _ _ _)); (fail_if_success (with_reducible show wpAny _ _ (PySem.call (Value.ref 49) _) _ _ _)); (fail_if_success (with_reducible show wpAny _ _ (PySem.call (Value.ref 35) _) _ _ _)); (fail_if_success (with_reducible show wpAny _ _ (PySem.call (Value.ref 56) _) _ _ _)); first | (k_unfold; (try dsimp only)) | walk1 | (dsimp only; walk1) | (leave1; try dsimp only)))
    rename News g _ _ _ => NZ
    rename Fr g _ _ _ => FZ
    exact hret _ _ _ t2 (stays_off hg FZ) (News.back hF hN hg NZ fun q hq => List.Mem.tail _ hq) ⟨up2, hft2⟩ (NewObj.ofT hg hsz NZ (List.Mem.head _) (up2.notin NZ (List.Mem.head _) (fun q hq => List.Mem.tail _ hq) fun vs e => by cases e) ⟨_, _, rfl⟩)
end Mine

-- FU4
open PySem PySem.W PyProof.Rows PyProof
set_option Elab.async false
set_option maxRecDepth 100000
set_option maxHeartbeats 8000000
set_option pp.deepTerms false
set_option pp.deepTerms.threshold 6
set_option rowWalk.seconds 0
namespace Mine
theorem idm1U_ok {w : World} {p : Program} {loose : List Str} {mean : ExcName → Option Value} {mg mb : Str → Option Value} (x b : Int) (tx tb : Tok) (t : Led) (ht : TabsOn w t) :
  PureE PySem.Challenge.rw_rs0157_02.prog w (hd2.heap_1 w.params) p loose mean mg mb 70 68 222 [.int x tx, .int b tb] t (fun g t' => TabsTo w t g t' ∧ FilT w t') (fun h => 0 ≤ x ∧ x < 2 ^ 50 ∧ 0 < b ∧ b < 2 ^ 30) (NewObj (Tup2I (x.fdiv b) (x.fmod b))) := by
  · skip
    k_fill
    k_with_none
    w_top off
    intro dp un gd cn cs a ccd cl outer A₀ base h₀ L m s Q E hB hF hX hT hcs hdp hun hN hpre hret
    refine wpAny_call ?_
    ((k_dflt (refine' code_T ?k1 ?k2 ?k3 ?k5 ?kN ?kA ?kF ?kK ?k6 ?k7 ?k8 ?k9 ?kB ?_ ?c2 ?c3 ?c4 ?c5; (case kA => exact rfl); (case kF => exact rfl); (case kK => assumption); (case k1 => k_asm); (case k2 => k_asm); (case k3 => k_asm); (case k5 => k_asm); (case kN => assumption); (case k6 => k_is); (case k7 => k_is); (case k8 => (show _ < _; dsimp only; omega)); (case k9 => exact BindsTo.of_eq rfl); (case c5 => decide); (case kB => exact locs rfl); (case c2 => exact rfl); (case c3 => exact rfl); (case c4 => exact rfl); k_whole)))
    intro g L' h₁ hg F' N' B' X' T' hsz hl0
    (try dsimp only); (try k_fold)
    clear hl0
    obtain ⟨h0, h1, hb0, hb30⟩ := hpre
    (repeat' ((fail_if_success (with_reducible show wpAny _ _ (PySem.call (Value.ref _) _) _ _ _)); first | (k_unfold; (try dsimp only)) | walk1 | (dsimp only; walk1) | (leave1; try dsimp only)))
    all_goals (try (exfalso; omega))
    rename News g L' _ _ => N0
    rename Fr g L' _ _ => F0
    refine PureE.call (dmpU_ok _ _ _ _ t ht) [] B' F0 X' T' N0 rfl (by show _ < _; dsimp only; omega) (by show _ < _; dsimp only; omega) (fun _ h => h) (List.forall_mem_nil _) ⟨h0, h1, hb0, hb30⟩ ?_
    rintro v h2 tk2 t1 st2 ⟨hto, hft⟩ ⟨D, o, rfl, hD0, hD1, tq, tr, rfl⟩ F2 N2
    have N3 := News.addD F0 N2 hD0 hD1
    have up1 := hto.up (up_of hg F0 N0 (fun _ h => h) fun _ h => h)
    rw [List.nil_append] at N3
    clear N2 st2 hD0 hD1 N0 F0
    (repeat' ((fail_if_success (with_reducible show wpAny _ _ (PySem.call (Value.ref _) _) _ _ _)); first | (k_unfold; (try dsimp only)) | walk1 | (dsimp only; walk1) | (leave1; try dsimp only)))
    rename News g _ _ _ => NZ
    rename Fr g _ _ _ => FZ
    refine hret _ _ _ t1 (stays_off hg FZ) (News.back hF hN hg NZ fun q hq => (by repeat (first | exact hq | refine List.Mem.tail _ ?_))) ⟨up1, hft⟩ (NewObj.ofT hg hsz NZ (List.Mem.head _) (up1.notin NZ (List.Mem.head _) (fun q hq => (by repeat (first | exact hq | refine List.Mem.tail _ ?_))) fun vs e => by cases e) ?_)
    exact ⟨_, _, rfl⟩
theorem not_div {x b : Int} (hb : 0 < b) : (-1 - (-1 - x).fdiv b = x.fdiv b) ∧ b + (-1 - (-1 - x).fmod b) = x.fmod b := by
  have h1 := Int.mul_fdiv_add_fmod x b
  have h2 := Int.mul_fdiv_add_fmod (-1 - x) b
  have h3 := Int.fmod_nonneg_of_pos x hb
  have h4 := Int.fmod_lt_of_pos x hb
  have h5 := Int.fmod_nonneg_of_pos (-1 - x) hb
  have h6 := Int.fmod_lt_of_pos (-1 - x) hb
  generalize x.fdiv b = q at *
  generalize x.fmod b = r at *
  generalize (-1 - x).fdiv b = q' at *
  generalize (-1 - x).fmod b = r' at *
  have e : b * (q + q' + 1) = b - 1 - r - r' := by rw [Int.mul_add, Int.mul_add]; omega
  have hz : q + q' + 1 = 0 := by
    rcases Int.lt_trichotomy (q + q' + 1) 0 with h | h | h
    · have := Int.mul_le_mul_of_nonneg_left (show q + q' + 1 ≤ -1 by omega) (Int.le_of_lt hb); omega
    · exact h
    · have := Int.mul_le_mul_of_nonneg_left (show 1 ≤ q + q' + 1 by omega) (Int.le_of_lt hb); omega
  rw [hz, Int.mul_zero] at e
  omega
theorem idm2U_ok {w : World} {p : Program} {loose : List Str} {mean : ExcName → Option Value} {mg mb : Str → Option Value} (x b : Int) (tx tb : Tok) (t : Led) (ht : TabsOn w t) :
  PureE PySem.Challenge.rw_rs0157_02.prog w (hd2.heap_1 w.params) p loose mean mg mb 70 70 226 [.int x tx, .int b tb] t (fun g t' => TabsTo w t g t' ∧ FilT w t') (fun h => -(2 ^ 50) < x ∧ x < 2 ^ 50 ∧ 0 < b ∧ b < 2 ^ 30) (NewObj (Tup2I (x.fdiv b) (x.fmod b))) := by
  by_cases hneg : 0 ≤ x
  · intro dp un gd cn cs a ccd cl outer A₀ base h₀ L m s Q E hB hF hX hT hcs hdp hun hN hpre hret
    exact idm1U_ok x b tx tb t ht dp un gd cn cs a ccd cl outer A₀ base h₀ L m s Q E hB hF hX hT hcs (by omega) (by omega) hN ⟨hneg, hpre.2⟩ hret
  · skip
    k_fill
    k_with_none
    intro dp un gd cn cs a ccd cl outer A₀ base h₀ L m s Q E hB hF hX hT hcs hdp hun hN hpre hret
    refine wpAny_call ?_
    ((k_dflt (refine' code_T ?k1 ?k2 ?k3 ?k5 ?kN ?kA ?kF ?kK ?k6 ?k7 ?k8 ?k9 ?kB ?_ ?c2 ?c3 ?c4 ?c5; (case kA => exact rfl); (case kF => exact rfl); (case kK => assumption); (case k1 => k_asm); (case k2 => k_asm); (case k3 => k_asm); (case k5 => k_asm); (case kN => assumption); (case k6 => k_is); (case k7 => k_is); (case k8 => (show _ < _; dsimp only; omega)); (case k9 => exact BindsTo.of_eq rfl); (case c5 => decide); (case kB => exact locs rfl); (case c2 => exact rfl); (case c3 => exact rfl); (case c4 => exact rfl); k_whole)))
    intro g L' h₁ hg F' N' B' X' T' hsz hl0
    (try dsimp only); (try k_fold)
    clear hl0
    obtain ⟨h0, h1, hb0, hb30⟩ := hpre
    (repeat' ((fail_if_success (with_reducible show wpAny _ _ (PySem.call (Value.ref _) _) _ _ _)); first | (k_unfold; (try dsimp only)) | walk1 | (dsimp only; walk1) | (leave1; try dsimp only)))
    all_goals (try (exfalso; omega))
    have hnx : ∀ z : Int, Builtin.bitNot z = -1 - z := fun z => by unfold Builtin.bitNot; omega
    rw [hnx]
    rename News g L' _ _ => N0
    rename Fr g L' _ _ => F0
    refine PureE.call (idm1U_ok _ _ _ _ t ht) [] B' F0 X' T' N0 rfl (by show _ < _; dsimp only; omega) (by show _ < _; dsimp only; omega) (fun _ h => h) (List.forall_mem_nil _) ⟨by omega, by omega, hb0, hb30⟩ ?_
    rintro v h2 tk2 t1 st2 ⟨hto, hft⟩ ⟨D, o, rfl, hD0, hD1, tq, tr, rfl⟩ F2 N2
    have N3 := News.addD F0 N2 hD0 hD1
    have up1 := hto.up (up_of hg F0 N0 (fun _ h => h) fun _ h => h)
    rw [List.nil_append] at N3
    clear N2 st2 hD0 hD1 N0 F0
    (repeat' ((fail_if_success (with_reducible show wpAny _ _ (PySem.call (Value.ref _) _) _ _ _)); first | (k_unfold; (try dsimp only)) | walk1 | (dsimp only; walk1) | (leave1; try dsimp only)))
    rename News g _ _ _ => NZ
    rename Fr g _ _ _ => FZ
    refine hret _ _ _ t1 (stays_off hg FZ) (News.back hF hN hg NZ fun q hq => (by repeat (first | exact hq | refine List.Mem.tail _ ?_))) ⟨up1, hft⟩ (NewObj.ofT hg hsz NZ (List.Mem.head _) (up1.notin NZ (List.Mem.head _) (fun q hq => (by repeat (first | exact hq | refine List.Mem.tail _ ?_))) fun vs e => by cases e) ?_)
    rw [hnx, hnx, (not_div hb0).1, (not_div hb0).2]
    exact ⟨_, _, rfl⟩
end Mine

-- P6
open PySem PySem.W PyProof.Rows PyProof
set_option Elab.async false
set_option maxRecDepth 100000
set_option linter.unusedVariables false
namespace Mine
noncomputable def pickI (bs : List Int) (lo hi st : Option Int) : List Int := (sliceRange (sliceBounds lo hi st bs.length).1 (sliceBounds lo hi st bs.length).2.1 (sliceBounds lo hi st bs.length).2.2).filterMap (bs[·]?)
theorem pick_go {us : List Value} {bs : List Int} (hI : IntsAre us bs) : ∀ l : List Nat, IntsAre (l.filterMap (us.toArray[·]?)) (l.filterMap (bs[·]?))
  | [] => IntsAre.nil
  | i :: r => by
    rw [List.filterMap_cons, List.filterMap_cons]
    have e := hI.length
    cases h : bs[i]? with
    | none =>
      have : us.toArray[i]? = none := by
        rw [List.getElem?_toArray]
        rw [List.getElem?_eq_none_iff] at h ⊢; omega
      rw [this]
      exact pick_go hI r
    | some n =>
      obtain ⟨t, hx⟩ := hI.get i n h
      have : us.toArray[i]? = some (.int n t) := by rw [List.getElem?_toArray]; exact hx
      rw [this]
      exact IntsAre.cons _ _ (pick_go hI r)
theorem pick_ints {us : List Value} {bs : List Int} (hI : IntsAre us bs) (lo hi st : Option Int) : IntsAre (slicePick us.toArray lo hi st).toList (pickI bs lo hi st) := by
  unfold slicePick pickI
  rw [List.size_toArray, hI.length, List.toList_toArray]
  exact pick_go hI _
theorem sum_pick {prog : Program} {w : World} {A : Around} {E : Value → Shared → Prop} {s : Shared} {h₀ : Heap} {L : Addr} {m : Str → Option Value} {news : List (Addr × Obj)} {l : Addr} {us : List Value} {bs : List Int} {lo hi st : Option Int} {Q : Value → Shared → Prop} (hh : A.handled = none) (F : Fr h₀ L s.heap m) (N : News h₀ L s.heap news)
    (hm : (l, ({ cls := .type "list", data := .seq (slicePick us.toArray lo hi st) } : Obj)) ∈ news) (hI : IntsAre us bs)
    (h : ∀ h' tk t', Fr h₀ L h' m → News h₀ L h' news → Q (.int (pickI bs lo hi st).sum t') { s with heap := h', toks := tk }) :
    wpAny (model prog w) A (call (.builtin "sum") [.ref l]) Q E s :=
  sumK (vs := (slicePick us.toArray lo hi st).toList) hh F N ⟨_, (N _ hm).1, rfl, _, rfl⟩ (pick_ints hI lo hi st) h
end Mine

-- P7
open PySem PySem.W PyProof.Rows PyProof
set_option Elab.async false
set_option maxRecDepth 100000
set_option linter.unusedVariables false
namespace Mine
noncomputable def weighedF (bs : List Int) : Int := (List.foldl (fun l' k' => if bs.getD k'.toNat 0 = 1 then l' ++ [k' + 1] else l') [] (rangeKs 0 ((bs.length : Int) - 0).toNat)).sum
noncomputable def missesF (bs bs2 : List Int) : Int := (List.foldl (fun l' k' => if ¬bs.getD k'.toNat 0 = bs2.getD k'.toNat 0 then l' ++ [k'] else l') [] (rangeKs 0 ((bs.length : Int) - 0).toNat)).length
noncomputable abbrev tailS (bs : List Int) (k : Int) : List Int := bs.drop k.toNat
noncomputable abbrev headS (bs : List Int) (k : Int) : List Int := bs.take k.toNat
noncomputable def downK (bs : List Int) (lack : Int) : Nat → Nat
  | 0 => 0
  | k + 1 => if (tailS bs ((k : Int) + 1)).sum < lack then downK bs lack k else k + 1
noncomputable def upK (bs : List Int) (z : Int) : Nat → Nat → Nat
  | 0, k => k
  | f + 1, k => if (k : Int) - (headS bs k).sum < z then upK bs z f (k + 1) else k
noncomputable abbrev lackF (bs : List Int) (check : Int) : Int := (check - weighedF bs).fmod (bs.length + 2)
noncomputable def mendedF (bs : List Int) (check : Int) : List Int :=
  if lackF bs check ≤ bs.sum then headS bs (downK bs (lackF bs check) bs.length) ++ [0] ++ tailS bs (downK bs (lackF bs check) bs.length)
  else headS bs (upK bs (lackF bs check - bs.sum - 1) bs.length 0) ++ [1] ++ tailS bs (upK bs (lackF bs check - bs.sum - 1) bs.length 0)

/-- two or three bits -/
noncomputable def Bits (bs : List Int) : Prop := (bs.length = 2 ∨ bs.length = 3) ∧ ∀ b ∈ bs, b = 0 ∨ b = 1
noncomputable def allBits : Nat → List (List Int)
  | 0 => [[]]
  | n + 1 => (allBits n).flatMap fun r => [0 :: r, 1 :: r]
theorem bits_all : ∀ (n : Nat) (bs : List Int), bs.length = n → (∀ b ∈ bs, b = 0 ∨ b = 1) → bs ∈ allBits n
  | 0, bs, h, _ => by rw [List.eq_nil_of_length_eq_zero h]; exact .head _
  | n + 1, b :: r, h, hb => by
    have ih := bits_all n r (by simpa using h) fun x hx => hb x (.tail _ hx)
    show _ ∈ (allBits n).flatMap _
    refine List.mem_flatMap.mpr ⟨r, ih, ?_⟩
    rcases hb b (.head _) with rfl | rfl
    · exact .head _
    · exact .tail _ (.head _)
theorem bits_mem {bs : List Int} (h : Bits bs) : bs ∈ allBits 2 ++ allBits 3 := by
  rcases h.1 with e | e
  · exact List.mem_append_left _ (bits_all 2 bs e h.2)
  · exact List.mem_append_right _ (bits_all 3 bs e h.2)
theorem bits_facts {bs : List Int} (h : Bits bs) : (tailS bs 0).sum = bs.sum ∧ (headS bs bs.length).sum = bs.sum ∧ 0 ≤ weighedF bs ∧ weighedF bs ≤ 6 ∧ 0 ≤ bs.sum ∧ bs.sum ≤ 3 := by
  have H : ∀ bs ∈ allBits 2 ++ allBits 3, (tailS bs 0).sum = bs.sum ∧ (headS bs bs.length).sum = bs.sum ∧ 0 ≤ weighedF bs ∧ weighedF bs ≤ 6 ∧ 0 ≤ bs.sum ∧ bs.sum ≤ 3 := by decide +kernel
  exact H bs (bits_mem h)
/-- the words of the two loops -/
noncomputable def DownW (bs : List Int) (lack k : Int) : Prop := 0 ≤ k ∧ k ≤ bs.length ∧ downK bs lack k.toNat = downK bs lack bs.length
theorem DownW.start (bs : List Int) (lack : Int) : DownW bs lack bs.length := ⟨by omega, by omega, by simp⟩
theorem DownW.turn {bs : List Int} {lack k : Int} (h : DownW bs lack k) (hb : Bits bs) (hl : lack ≤ bs.sum) (ht : (tailS bs k).sum < lack) : 1 ≤ k ∧ DownW bs lack (k - 1) := by
  obtain ⟨h0, h1, h2⟩ := h
  have hk : 1 ≤ k := by
    by_cases h : 0 < k
    · omega
    · have : k = 0 := by omega
      subst this
      rw [(bits_facts hb).1] at ht; omega
  refine ⟨hk, by omega, by omega, ?_⟩
  obtain ⟨n, rfl⟩ : ∃ n : Nat, k = (n : Int) + 1 := ⟨(k - 1).toNat, by omega⟩
  rw [show ((n : Int) + 1).toNat = n + 1 by omega] at h2
  rw [show ((n : Int) + 1 - 1).toNat = n by omega]
  rw [← h2, downK, if_pos ht]
theorem DownW.stop {bs : List Int} {lack k : Int} (h : DownW bs lack k) (ht : ¬ (tailS bs k).sum < lack) : k = (downK bs lack bs.length : Nat) := by
  obtain ⟨h0, h1, h2⟩ := h
  rw [← h2]
  by_cases h : 0 < k
  · obtain ⟨n, rfl⟩ : ∃ n : Nat, k = (n : Int) + 1 := ⟨(k - 1).toNat, by omega⟩
    rw [show ((n : Int) + 1).toNat = n + 1 by omega, downK, if_neg ht]
    omega
  · have : k = 0 := by omega
    subst this
    rfl
noncomputable def UpW (bs : List Int) (z k : Int) : Prop := 0 ≤ k ∧ k ≤ bs.length ∧ upK bs z (bs.length - k.toNat) k.toNat = upK bs z bs.length 0
theorem UpW.start (bs : List Int) (z : Int) : UpW bs z 0 := ⟨by omega, by omega, by simp⟩
theorem UpW.turn {bs : List Int} {z k : Int} (h : UpW bs z k) (hb : Bits bs) (hz : z ≤ bs.length - bs.sum) (ht : k - (headS bs k).sum < z) : k + 1 ≤ bs.length ∧ UpW bs z (k + 1) := by
  obtain ⟨h0, h1, h2⟩ := h
  have hk : k + 1 ≤ bs.length := by
    by_cases h : k < bs.length
    · omega
    · have : k = bs.length := by omega
      subst this
      rw [(bits_facts hb).2.1] at ht; omega
  refine ⟨hk, by omega, hk, ?_⟩
  obtain ⟨n, rfl⟩ : ∃ n : Nat, k = (n : Int) := ⟨k.toNat, by omega⟩
  rw [Int.toNat_natCast] at h2
  rw [show ((n : Int) + 1).toNat = n + 1 by omega]
  rw [← h2, show bs.length - n = (bs.length - (n + 1)) + 1 by omega]
  conv => rhs; rw [upK]
  rw [if_pos ht]
theorem UpW.stop {bs : List Int} {z k : Int} (h : UpW bs z k) (ht : ¬ k - (headS bs k).sum < z) : k = (upK bs z bs.length 0 : Nat) := by
  obtain ⟨h0, h1, h2⟩ := h
  obtain ⟨n, rfl⟩ : ∃ n : Nat, k = (n : Int) := ⟨k.toNat, by omega⟩
  rw [← h2, Int.toNat_natCast]
  cases bs.length - n with
  | zero => rfl
  | succ f => rw [upK, if_neg ht]
theorem lack_bd (bs : List Int) (check : Int) : 0 ≤ lackF bs check ∧ lackF bs check < bs.length + 2 := by
  unfold lackF
  exact ⟨Int.fmod_nonneg_of_pos _ (by omega), Int.fmod_lt_of_pos _ (by omega)⟩
theorem mended_down {bs : List Int} {check k : Int} (h : DownW bs (lackF bs check) k) (ht : ¬ (tailS bs k).sum < lackF bs check) (hl : lackF bs check ≤ bs.sum) : headS bs k ++ [0] ++ tailS bs k = mendedF bs check := by
  unfold mendedF
  rw [if_pos hl, ← DownW.stop h ht]
theorem mended_up {bs : List Int} {check k : Int} (h : UpW bs (lackF bs check - bs.sum - 1) k) (ht : ¬ k - (headS bs k).sum < lackF bs check - bs.sum - 1) (hl : ¬ lackF bs check ≤ bs.sum) : headS bs k ++ [1] ++ tailS bs k = mendedF bs check := by
  unfold mendedF
  rw [if_neg hl, ← UpW.stop h ht]
theorem ints_to {us : List Value} {a b : List Int} (h : IntsAre us a) (e : a = b) : IntsAre us b := e ▸ h
end Mine

-- FG2
open PySem PySem.W PyProof.Rows PyProof
set_option Elab.async false
set_option maxRecDepth 100000
set_option maxHeartbeats 8000000
set_option pp.deepTerms false
set_option pp.deepTerms.threshold 6
set_option rowWalk.seconds 0
namespace Mine

theorem weighed_ok {w : World} {p : Program} {loose : List Str} {mean : ExcName → Option Value} {mg mb : Str → Option Value} (D : Addr) (us : List Value) (bs : List Int) :
  Pure PySem.Challenge.rw_rs0157_02.prog w (hd2.heap_1 w.params) p loose mean mg mb 138 4 30 [.ref D] (fun h => h.IsList D us.toArray ∧ IntsAre us bs ∧ bs.length ≤ 8) (IsV fun t => .int (weighedF bs) t) := by
  k_fill
  k_with_none
  w_top off
  intro dp un gd cn cs a ccd cl outer A₀ base h₀ L m s Q E hB hF hX hT hcs hdp hun hpre hret
  refine wpAny_call ?_
  ((k_dflt (refine' code_pureC ?k1 ?k2 ?k3 ?k5 ?kA ?kF ?kK ?k6 ?k7 ?k8 ?k9 ?kB ?kD ?_ ?c2 ?c3 ?c4; (case kA => exact rfl); (case kF => exact rfl); (case kK => assumption); (case k1 => k_asm); (case k2 => k_asm); (case k3 => k_asm); (case k5 => k_asm); (case k6 => k_is); (case k7 => k_is); (case k8 => (show _ < _; dsimp only; omega)); (case k9 => exact BindsTo.of_eq rfl); (case kB => exact rfl); (case kD => decide +kernel); (case c2 => exact rfl); (case c3 => exact rfl); (case c4 => exact rfl); k_whole)))
  intro g L' h₁ tk' cells' hg F' N' Y' B' X' T' hsz
  k_cells Y'
  (try simp only [List.cons_append, List.nil_append] at N')
  (try dsimp only); (try k_fold)
  obtain ⟨hl, hI, hlen⟩ := hpre
  rw [← hg] at hl
  have hIl := hI.length
  (repeat' (first | (k_unfold; (try dsimp only)) | walk1 | (dsimp only; walk1) | (leave1; try dsimp only)))
  exact hret _ _ _ (stays_of hg (by assumption)) (isV_int rfl)
theorem misses_ok {w : World} {p : Program} {loose : List Str} {mean : ExcName → Option Value} {mg mb : Str → Option Value} (D D2 : Addr) (us us2 : List Value) (bs bs2 : List Int) :
  Pure PySem.Challenge.rw_rs0157_02.prog w (hd2.heap_1 w.params) p loose mean mg mb 157 4 30 [.ref D, .ref D2] (fun h => h.IsList D us.toArray ∧ IntsAre us bs ∧ h.IsList D2 us2.toArray ∧ IntsAre us2 bs2 ∧ bs.length ≤ 8 ∧ bs2.length = bs.length) (IsV fun t => .int (missesF bs bs2) t) := by
  k_fill
  k_with_none
  intro dp un gd cn cs a ccd cl outer A₀ base h₀ L m s Q E hB hF hX hT hcs hdp hun hpre hret
  refine wpAny_call ?_
  ((k_dflt (refine' code_pureC ?k1 ?k2 ?k3 ?k5 ?kA ?kF ?kK ?k6 ?k7 ?k8 ?k9 ?kB ?kD ?_ ?c2 ?c3 ?c4; (case kA => exact rfl); (case kF => exact rfl); (case kK => assumption); (case k1 => k_asm); (case k2 => k_asm); (case k3 => k_asm); (case k5 => k_asm); (case k6 => k_is); (case k7 => k_is); (case k8 => (show _ < _; dsimp only; omega)); (case k9 => exact BindsTo.of_eq rfl); (case kB => exact rfl); (case kD => decide +kernel); (case c2 => exact rfl); (case c3 => exact rfl); (case c4 => exact rfl); k_whole)))
  intro g L' h₁ tk' cells' hg F' N' Y' B' X' T' hsz
  k_cells Y'
  (try simp only [List.cons_append, List.nil_append] at N')
  (try dsimp only); (try k_fold)
  obtain ⟨hl, hI, hl2, hI2, hlen, hlen2⟩ := hpre
  rw [← hg] at hl hl2
  have hIl := hI.length
  have hIl2 := hI2.length
  (repeat' (first | (k_unfold; (try dsimp only)) | walk1 | (dsimp only; walk1) | (leave1; try dsimp only)))
  exact hret _ _ _ (stays_of hg (by assumption)) (isV_int rfl)

-- FG3
open PySem PySem.W PyProof.Rows PyProof
set_option Elab.async false
set_option maxRecDepth 100000
set_option maxHeartbeats 8000000
set_option pp.deepTerms false
set_option pp.deepTerms.threshold 6
set_option rowWalk.seconds 0

local macro_rules | `(tactic| walk_at "call builtin:sum") => `(tactic| (k_here; (with_reducible show wpAny _ _ (call (Value.builtin "sum") [Value.ref _]) _ _ _); (with_unfolding_all refine' sum_pick ?k0 ?k1 ?k2 ?k3 ?k4 ?_; (case k0 => with_unfolding_all rfl); (case k1 => k_asm); (case k2 => k_asm); (case k3 => k_mem); (case k4 => assumption); k_whole); intro h' tk' t' F' N'))
theorem draws_ok {w : World} {p : Program} {loose : List Str} {mean : ExcName → Option Value} {mg mb : Str → Option Value} (D : Addr) (us : List Value) (bs : List Int) :
  Pure PySem.Challenge.rw_rs0157_02.prog w (hd2.heap_1 w.params) p loose mean mg mb 126 4 30 [.ref D] (fun h => h.IsList D us.toArray ∧ IntsAre us bs ∧ bs.length ≤ 63) (NewObj fun o => ∃ ds, ListI ds o ∧ (ds.length = 2 ∨ ds.length = 3) ∧ ∀ d ∈ ds, 0 ≤ d ∧ d < 72) := by
  k_fill
  k_with_none
  w_top off
  intro dp un gd cn cs a ccd cl outer A₀ base h₀ L m s Q E hB hF hX hT hcs hdp hun hpre hret
  refine wpAny_call ?_
  ((k_dflt (refine' code_pureC ?k1 ?k2 ?k3 ?k5 ?kA ?kF ?kK ?k6 ?k7 ?k8 ?k9 ?kB ?kD ?_ ?c2 ?c3 ?c4; (case kA => exact rfl); (case kF => exact rfl); (case kK => assumption); (case k1 => k_asm); (case k2 => k_asm); (case k3 => k_asm); (case k5 => k_asm); (case k6 => k_is); (case k7 => k_is); (case k8 => (show _ < _; dsimp only; omega)); (case k9 => exact BindsTo.of_eq rfl); (case kB => exact rfl); (case kD => decide +kernel); (case c2 => exact rfl); (case c3 => exact rfl); (case c4 => exact rfl); k_whole)))
  intro g L' h₁ tk' cells' hg F' N' Y' B' X' T' hsz
  k_cells Y'
  (try simp only [List.cons_append, List.nil_append] at N')
  (try dsimp only); (try k_fold)
  obtain ⟨hl, hI, hlen⟩ := hpre
  rw [← hg] at hl
  have hIl := hI.length
  (repeat' (first | (k_unfold; (try dsimp only)) | walk1 | (dsimp only; walk1) | (leave1; try dsimp only)))
  rename IntsAre _ (List.map _ _) => hZ
  rename News g L' _ _ => N9
  refine hret _ _ _ (stays_of hg (by assumption)) (NewObj.of hg N9 (List.Mem.head _) ⟨_, ⟨_, _, rfl, hZ⟩, ?_, ?_⟩)
  · rw [List.length_map, rangeKs_length]; omega
  · intro d hd
    obtain ⟨k, _, rfl⟩ := List.mem_map.mp hd
    exact ⟨Int.fmod_nonneg_of_pos _ (by decide), Int.fmod_lt_of_pos _ (by decide)⟩

-- FG6
open PySem PySem.W PyProof.Rows PyProof
set_option Elab.async false
set_option maxRecDepth 100000
set_option maxHeartbeats 8000000
set_option pp.deepTerms false
set_option pp.deepTerms.threshold 6
set_option rowWalk.seconds 0
theorem mendedU_ok {w : World} {p : Program} {loose : List Str} {mean : ExcName → Option Value} {mg mb : Str → Option Value} (D : Addr) (us : List Value) (bs : List Int) (check : Int) (tc : Tok) (t : Led) (ht : TabsOn w t) :
  PureE PySem.Challenge.rw_rs0157_02.prog w (hd2.heap_1 w.params) p loose mean mg mb 145 80 260 [.ref D, .int check tc] t (fun g t' => TabsTo w t g t' ∧ FilT w t') (fun h => h.IsList D us.toArray ∧ IntsAre us bs ∧ Bits bs ∧ 0 ≤ check ∧ check ≤ 8) (NewObj (ListI (mendedF bs check))) := by
  k_fill
  k_with_none
  w_top off
  intro dp un gd cn cs a ccd cl outer A₀ base h₀ L m s Q E hB hF hX hT hcs hdp hun hN hpre hret
  refine wpAny_call ?_
  ((k_dflt (refine' code_T ?k1 ?k2 ?k3 ?k5 ?kN ?kA ?kF ?kK ?k6 ?k7 ?k8 ?k9 ?kB ?_ ?c2 ?c3 ?c4 ?c5; (case kA => exact rfl); (case kF => exact rfl); (case kK => assumption); (case k1 => k_asm); (case k2 => k_asm); (case k3 => k_asm); (case k5 => k_asm); (case kN => assumption); (case k6 => k_is); (case k7 => k_is); (case k8 => (show _ < _; dsimp only; omega)); (case k9 => exact BindsTo.of_eq rfl); (case c5 => decide); (case kB => exact locs rfl); (case c2 => exact rfl); (case c3 => exact rfl); (case c4 => exact rfl); k_whole)))
  intro g L' h₁ hg F' N' B' X' T' hsz hl0
  (try dsimp only); (try k_fold)
  obtain ⟨hl, hI, hbits, hc0, hc8⟩ := hpre
  have hl : g.IsList D us.toArray := list_hide ht hN hg hl
  have hIl := hI.length
  have hlen := hbits.1
  have hfacts := bits_facts hbits
  obtain ⟨hx1, hx2, hx3, hx4, hx5, hx6⟩ := hfacts
  clear hl0
  (repeat' ((fail_if_success (with_reducible show wpAny _ _ (exec (Stmt.While _ _ _ _) _) _ _ _)); (fail_if_success (with_reducible show wpAny _ _ (PySem.call (Value.ref 70) _) _ _ _)); (fail_if_success (with_reducible show wpAny _ _ (PySem.call (Value.ref 138) _) _ _ _)); first | (k_unfold; (try dsimp only)) | walk1 | (dsimp only; walk1) | (leave1; try dsimp only)))
  rename News g L' _ _ => N0
  rename Fr g L' _ _ => F0
  refine Pure.call (weighed_ok _ _ _) B' F0 X' T' N0 rfl (by show _ < _; dsimp only; omega) (by show _ < _; dsimp only; omega) ⟨stays_list F0.keep hl, hI, by omega⟩ ?_
  rintro v hw tkw stw ⟨tw, rfl⟩ Fw Nw
  clear stw F0 N0
  (repeat' ((fail_if_success (with_reducible show wpAny _ _ (exec (Stmt.While _ _ _ _) _) _ _ _)); (fail_if_success (with_reducible show wpAny _ _ (PySem.call (Value.ref 70) _) _ _ _)); (fail_if_success (with_reducible show wpAny _ _ (PySem.call (Value.ref 138) _) _ _ _)); first | (k_unfold; (try dsimp only)) | walk1 | (dsimp only; walk1) | (leave1; try dsimp only)))
  rename News g L' _ _ => N0
  rename Fr g L' _ _ => F0
  refine PureE.call (idm2U_ok _ _ _ _ t ht) [] B' F0 X' T' N0 rfl (by show _ < _; dsimp only; omega) (by show _ < _; dsimp only; omega) (fun _ h => h) (List.forall_mem_nil _) ⟨by omega, by omega, by omega, by omega⟩ ?_
  rintro v h2 tk2 t1 st2 ⟨hto, hft⟩ ⟨D1, o, rfl, hD0, hD1, tq, tr, rfl⟩ F2 N2
  have N3 := News.addD F0 N2 hD0 hD1
  have up1 := hto.up (up_of hg F0 N0 (fun _ h => h) fun _ h => h)
  rw [List.nil_append] at N3
  clear N2 st2 hD0 hD1 N0 F0
  (repeat' ((fail_if_success (with_reducible show wpAny _ _ (exec (Stmt.While _ _ _ _) _) _ _ _)); (fail_if_success (with_reducible show wpAny _ _ (PySem.call (Value.ref 70) _) _ _ _)); (fail_if_success (with_reducible show wpAny _ _ (PySem.call (Value.ref 138) _) _ _ _)); first | (k_unfold; (try dsimp only)) | walk1 | (dsimp only; walk1) | (leave1; try dsimp only)))
  · k_with "state" => first | exact ⟨by omega, by omega, DownW.start _ _⟩ | (have h9 := DownW.turn (by assumption) hbits (by assumption) (by assumption); exact ⟨by omega, by omega, h9.2⟩)
    k_with "measure" => (have h9 := (DownW.turn (by assumption) hbits (by assumption) (by assumption)).1; omega)
    k_while (fun _ k => 0 ≤ k ∧ k ≤ bs.length ∧ DownW bs (lackF bs check) k) (fun _ k => k.toNat) "k"
    (repeat' ((fail_if_success (with_reducible show wpAny _ _ (exec (Stmt.While _ _ _ _) _) _ _ _)); (fail_if_success (with_reducible show wpAny _ _ (PySem.call (Value.ref 70) _) _ _ _)); (fail_if_success (with_reducible show wpAny _ _ (PySem.call (Value.ref 138) _) _ _ _)); first | (k_unfold; (try dsimp only)) | walk1 | (dsimp only; walk1) | (leave1; try dsimp only)))
    rename News g _ _ _ => NZ
    rename Fr g _ _ _ => FZ
    exact hret _ _ _ t1 (stays_off hg FZ) (News.back hF hN hg NZ fun q hq => (by repeat (first | exact hq | refine List.Mem.tail _ ?_))) ⟨up1, hft⟩ (NewObj.ofT hg hsz NZ (List.Mem.head _) (up1.notin NZ (List.Mem.head _) (fun q hq => (by repeat (first | exact hq | refine List.Mem.tail _ ?_))) fun vs e => by cases e) ⟨_, _, rfl, ints_to (by assumption) (mended_down (by assumption) (by assumption) (by assumption))⟩)
  · k_with "state" => first | exact ⟨by omega, by omega, UpW.start _ _⟩ | (have h9 := UpW.turn (by assumption) hbits (by have := lack_bd bs check; omega) (by assumption); exact ⟨by omega, by omega, h9.2⟩)
    k_with "measure" => (have h9 := (UpW.turn (by assumption) hbits (by have := lack_bd bs check; omega) (by assumption)).1; omega)
    k_while (fun _ k => 0 ≤ k ∧ k ≤ bs.length ∧ UpW bs (lackF bs check - bs.sum - 1) k) (fun _ k => bs.length - k.toNat) "k"
    (repeat' ((fail_if_success (with_reducible show wpAny _ _ (exec (Stmt.While _ _ _ _) _) _ _ _)); (fail_if_success (with_reducible show wpAny _ _ (PySem.call (Value.ref 70) _) _ _ _)); (fail_if_success (with_reducible show wpAny _ _ (PySem.call (Value.ref 138) _) _ _ _)); first | (k_unfold; (try dsimp only)) | walk1 | (dsimp only; walk1) | (leave1; try dsimp only)))
    rename News g _ _ _ => NZ
    rename Fr g _ _ _ => FZ
    exact hret _ _ _ t1 (stays_off hg FZ) (News.back hF hN hg NZ fun q hq => (by repeat (first | exact hq | refine List.Mem.tail _ ?_))) ⟨up1, hft⟩ (NewObj.ofT hg hsz NZ (List.Mem.head _) (up1.notin NZ (List.Mem.head _) (fun q hq => (by repeat (first | exact hq | refine List.Mem.tail _ ?_))) fun vs e => by cases e) ⟨_, _, rfl, ints_to (by assumption) (mended_up (by assumption) (by assumption) (by assumption))⟩)
end Mine

-- P8
open PySem PySem.W PyProof.Rows PyProof
set_option Elab.async false
set_option maxRecDepth 100000
set_option linter.unusedVariables false
namespace Mine
noncomputable abbrev wordF (n : Int) (bs : List Int) : Str := Txt.join (Str.ofString "") (bs.map fun k => Txt.item (lettersF n) k)
noncomputable def Bin (bs : List Int) : Prop := ∀ b ∈ bs, b = 0 ∨ b = 1
theorem bin_bd {bs : List Int} {k : Int} (h : Bin bs) (hk : k ∈ bs) : 0 ≤ k ∧ k < 2 := by
  rcases h k hk with rfl | rfl <;> omega
noncomputable def lettersN (n : Int) : List Nat := tl (lettersF n)
theorem forall12 {P : Int → Prop} (h : ∀ k : Fin 12, P (k.val : Int)) {n : Int} (h0 : 0 ≤ n) (h1 : n < 12) : P n := by
  have := h ⟨n.toNat, by omega⟩
  rwa [show ((n.toNat : Nat) : Int) = n by omega] at this
theorem letters_len {n : Int} (h0 : 0 ≤ n) (h1 : n < 12) : (lettersF n).length = 2 :=
  forall12 (P := fun n => (lettersF n).length = 2) (by decide +kernel) h0 h1
theorem item_one {x : Str} {k : Int} (h0 : 0 ≤ k) (h1 : k < x.length) : (Txt.item x k).length = 1 := by
  rw [it_eq h0 h1]; rfl
theorem items_one {n : Int} {bs : List Int} (h0 : 0 ≤ n) (h1 : n < 12) (hb : Bin bs) : ∀ a ∈ bs, (Txt.item (lettersF n) a).length = 1 := fun a ha => by
  have h2 := letters_len h0 h1
  have h3 := bin_bd hb ha
  exact item_one h3.1 (by omega)
noncomputable def wordN (n : Int) (bs : List Int) : List Nat := bs.map fun k => (lettersN n).getD k.toNat 0
theorem tl_word {n : Int} {bs : List Int} (h0 : 0 ≤ n) (h1 : n < 12) (hb : Bin bs) : tl (wordF n bs) = wordN n bs := by
  have h2 := letters_len h0 h1
  have e : (bs.map fun k => Txt.item (lettersF n) k) = (wordN n bs).map fun k => (⟨#[k]⟩ : Str) := by
    unfold wordN
    rw [List.map_map]
    refine List.map_congr_left fun k hk => ?_
    have h3 := bin_bd hb hk
    rw [it_eq h3.1 (by omega)]
    rfl
  unfold wordF
  rw [e]
  have e3 : Str.ofString "" = (⟨#[]⟩ : Str) := by decide +kernel
  have e2 := PyProof.Rows.join_ones (wordN n bs)
  unfold Txt.join
  rw [StrLaws.glued_eq_join, e3, e2]
theorem heard_eq (x : Str) : st (scan ((tl (replyF x)).drop 5)) = x := by
  have e1 : tl (Str.ofString "257 \"") = [50, 53, 55, 32, 34] := by decide +kernel
  have e2 : tl (Str.ofString "\" has \"one\" more") = 34 :: 32 :: [104, 97, 115, 32, 34, 111, 110, 101, 34, 32, 109, 111, 114, 101] := by decide +kernel
  unfold replyF
  rw [tl_app, tl_app, e1, e2, rep_dbl]
  show st (scan (StrLaws.dbl 34 (tl x) ++ 34 :: 32 :: _)) = x
  rw [scan_dbl (by simp), st_tl]
theorem reply_take (x : Str) : (tl (replyF x)).take 5 = [50, 53, 55, 32, 34] := by
  have e1 : tl (Str.ofString "257 \"") = [50, 53, 55, 32, 34] := by decide +kernel
  unfold replyF
  rw [tl_app, tl_app, e1]
  rfl
theorem reply_len (x : Str) (h : x.length ≤ 100) : 5 ≤ (replyF x).length ∧ (replyF x).length ≤ 1000 := by
  have h2 := rep_len x
  have e1 : (Str.ofString "257 \"").length = 5 := by decide +kernel
  have e2 : (Str.ofString "\" has \"one\" more").length = 16 := by decide +kernel
  unfold replyF
  rw [Str.length_append, Str.length_append, e1, e2]
  omega
theorem Pure.mono {prog : Program} {w : World} {K : Frag} {p : Program} {loose : List Str} {mean : ExcName → Option Value} {mg mb : Str → Option Value} {f : Addr} {dd uu : Nat} {vs : List Value} {Pre Pre' : Heap → Prop} {Post Post' : Heap → Value → Heap → Prop}
    (C : Pure prog w K p loose mean mg mb f dd uu vs Pre Post) (h1 : ∀ h, Pre' h → Pre h) (h2 : ∀ h v h', Pre' h → Post h v h' → Post' h v h') : Pure prog w K p loose mean mg mb f dd uu vs Pre' Post' :=
  fun dp un gd cn cs a ccd cl outer A₀ base h₀ L m s Q E B F X T hk hd hu hp ret => C dp un gd cn cs a ccd cl outer A₀ base h₀ L m s Q E B F X T hk hd hu (h1 _ hp) fun v h' tk' st q => ret v h' tk' st (h2 _ _ _ hp q)
theorem p257r_ok {w : World} {p : Program} {loose : List Str} {mean : ExcName → Option Value} {mg mb : Str → Option Value} (x : Str) (tx : Tok) :
  Pure PySem.Challenge.rw_rs0157_02.prog w (hd2.heap_1 w.params) p loose mean mg mb 121 1 8 [.str (replyF x) tx] (fun _ => x.length ≤ 100) (IsV fun t => .str x t) :=
  Pure.mono (p257_ok (replyF x) tx) (fun h hp => ⟨(reply_len x hp).1, (reply_len x hp).2, reply_take x⟩) fun h v h' hp q => by
    obtain ⟨t, e⟩ := q
    exact ⟨t, by rw [e, heard_eq]⟩
theorem levV_ok {w : World} {p : Program} {loose : List Str} {mean : ExcName → Option Value} {mg mb : Str → Option Value} (x y : Str) (b v : Int) (tx ty tb : Tok) :
  Pure PySem.Challenge.rw_rs0157_02.prog w (hd2.heap_1 w.params) p loose mean mg mb 28 3 16 [.str x tx, .str y ty, .int b tb] (fun _ => x.length ≤ 40 ∧ y.length ≤ 40 ∧ levF (tl x) (tl y) b = v) (IsV fun t => .int v t) :=
  Pure.mono (lev_ok x y b tx ty tb) (fun h hp => ⟨hp.1, hp.2.1⟩) fun h u h' hp q => by
    obtain ⟨t, e⟩ := q
    exact ⟨t, by rw [e, hp.2.2]⟩
noncomputable def rowF (size : Nat) (k : Int) : List Int := dg 1 k.toNat size
theorem row_all : (∀ k : Fin 8, dg 1 (8 + (k.val : Int)).toNat (ndig 1 (8 + (k.val : Int))) = rowF 3 k.val ++ [1] ∧ (rowF 3 k.val).length = 3 ∧ (∀ b ∈ rowF 3 k.val, b = 0 ∨ b = 1) ∧ 0 ≤ weighedF (rowF 3 k.val) ∧ weighedF (rowF 3 k.val) ≤ 10) ∧ (∀ k : Fin 16, dg 1 (16 + (k.val : Int)).toNat (ndig 1 (16 + (k.val : Int))) = rowF 4 k.val ++ [1] ∧ (rowF 4 k.val).length = 4 ∧ (∀ b ∈ rowF 4 k.val, b = 0 ∨ b = 1) ∧ 0 ≤ weighedF (rowF 4 k.val) ∧ weighedF (rowF 4 k.val) ≤ 10) := by decide +kernel
theorem row3 {k : Int} (h0 : 0 ≤ k) (h1 : k < 8) : dg 1 (8 + k).toNat (ndig 1 (8 + k)) = rowF 3 k ++ [1] ∧ (rowF 3 k).length = 3 ∧ Bin (rowF 3 k) ∧ 0 ≤ weighedF (rowF 3 k) ∧ weighedF (rowF 3 k) ≤ 10 := by
  have := row_all.1 ⟨k.toNat, by omega⟩
  dsimp only at this
  rwa [show ((k.toNat : Nat) : Int) = k by omega] at this
theorem row4 {k : Int} (h0 : 0 ≤ k) (h1 : k < 16) : dg 1 (16 + k).toNat (ndig 1 (16 + k)) = rowF 4 k ++ [1] ∧ (rowF 4 k).length = 4 ∧ Bin (rowF 4 k) ∧ 0 ≤ weighedF (rowF 4 k) ∧ weighedF (rowF 4 k) ≤ 10 := by
  have := row_all.2 ⟨k.toNat, by omega⟩
  dsimp only at this
  rwa [show ((k.toNat : Nat) : Int) = k by omega] at this
theorem ints_snoc : ∀ {rb : List Int} {us : List Value} {v : Int}, IntsAre us (rb ++ [v]) → ∃ us' t, us = us' ++ [.int v t] ∧ IntsAre us' rb
  | [], us, v, h => by
    cases h with
    | cons n t h => cases h; exact ⟨[], t, rfl, .nil⟩
  | a :: r, us, v, h => by
    cases h with
    | cons n t h =>
      obtain ⟨us', t', rfl, h'⟩ := ints_snoc h
      exact ⟨_ :: us', t', rfl, .cons _ _ h'⟩
noncomputable abbrev rep229 (n c : Int) : Str := Str.ofString "229 (" ++ Txt.mul (Txt.item (lettersF n) 0) 3 ++ Str.ofString (toString c) ++ Txt.item (lettersF n) 0 ++ Str.ofString ")"
noncomputable def good229B (x : Str) (n : Int) : Bool := decide (x.length ≤ 1000) && (Txt.slice x none (some 3) == Str.ofString "229") && decide (Txt.find x (Str.ofString "(") = 4) &&
  decide (9 ≤ Txt.find3 x (Str.ofString ")") (Txt.find x (Str.ofString "(") + 1)) && decide (Txt.find3 x (Str.ofString ")") (Txt.find x (Str.ofString "(") + 1) < x.length) &&
  (Txt.item x (Txt.find x (Str.ofString "(") + 1) == Txt.item x (Txt.find3 x (Str.ofString ")") (Txt.find x (Str.ofString "(") + 1) - 1)) &&
  (match Txt.split (Txt.slice x (some (Txt.find x (Str.ofString "(") + 1)) (some (Txt.find3 x (Str.ofString ")") (Txt.find x (Str.ofString "(") + 1)))) (Txt.item x (Txt.find x (Str.ofString "(") + 1)) with
    | [_, _, _, d, _] => decide (PySem.intText? d = some n) && decide (d.length ≤ 640)
    | _ => false)
theorem good_of {x : Str} {n : Int} (h : good229B x n = true) : Good229 x n := by
  unfold good229B at h
  simp only [Bool.and_eq_true, decide_eq_true_eq] at h
  obtain ⟨⟨⟨⟨⟨⟨h1, h2⟩, h3⟩, h4⟩, h5⟩, h6⟩, h7⟩ := h
  refine ⟨h1, h2, h3, ⟨h4, h5⟩, by rw [bne, h6]; rfl, ?_⟩
  split at h7
  · rename_i a b c d e heq
    rw [Bool.and_eq_true, decide_eq_true_eq, decide_eq_true_eq] at h7
    exact ⟨a, b, c, d, e, heq, h7.1, h7.2⟩
  · cases h7
theorem good229 {n c : Int} (h0 : 0 ≤ n) (h1 : n < 12) (hc : 0 ≤ c ∧ c < 5) : Good229 (rep229 n c) c := by
  have H : ∀ k : Fin 12, ∀ j : Fin 5, good229B (rep229 (k.val : Int) (j.val : Int)) (j.val : Int) = true := by decide +kernel
  have := H ⟨n.toNat, by omega⟩ ⟨c.toNat, by omega⟩
  dsimp only at this
  rw [show ((n.toNat : Nat) : Int) = n by omega, show ((c.toNat : Nat) : Int) = c by omega] at this
  exact good_of this
theorem fmod_bd (x : Int) {b : Int} (h0 : 0 < b) (h5 : b ≤ 5) : 0 ≤ x.fmod b ∧ x.fmod b < 5 := ⟨Int.fmod_nonneg_of_pos _ h0, Int.lt_of_lt_of_le (Int.fmod_lt_of_pos _ h0) h5⟩
theorem word_ok3 : ∀ n : Fin 12, ∀ k : Fin 8, PyData.strOk (wordF (n.val : Int) (rowF 3 (k.val : Int))) = true := by decide +kernel
theorem word_ok4 : ∀ n : Fin 12, ∀ k : Fin 16, PyData.strOk (wordF (n.val : Int) (rowF 4 (k.val : Int))) = true := by decide +kernel
theorem wordOk3 {n k : Int} (h0 : 0 ≤ n) (h1 : n < 12) (k0 : 0 ≤ k) (k1 : k < 8) : PyData.strOk (wordF n (rowF 3 k)) = true := by
  have := word_ok3 ⟨n.toNat, by omega⟩ ⟨k.toNat, by omega⟩
  dsimp only at this
  rwa [show ((n.toNat : Nat) : Int) = n by omega, show ((k.toNat : Nat) : Int) = k by omega] at this
theorem wordOk4 {n k : Int} (h0 : 0 ≤ n) (h1 : n < 12) (k0 : 0 ≤ k) (k1 : k < 16) : PyData.strOk (wordF n (rowF 4 k)) = true := by
  have := word_ok4 ⟨n.toNat, by omega⟩ ⟨k.toNat, by omega⟩
  dsimp only at this
  rwa [show ((n.toNat : Nat) : Int) = n by omega, show ((k.toNat : Nat) : Int) = k by omega] at this
theorem tup_ne_same {prog : Program} {w : World} {A : Around} {E : Value → Shared → Prop} {s : Shared} {h₀ : Heap} {L T1 T2 : Addr} {news : List (Addr × Obj)} {x : Str} {c : Int} {t u t' u' : Tok} {Q : Value → Shared → Prop} (N : News h₀ L s.heap news)
    (h1 : (T1, ({ cls := .type "tuple", data := .seq #[.str x t, .int c u] } : Obj)) ∈ news) (h2 : (T2, ({ cls := .type "tuple", data := .seq #[.str x t', .int c u'] } : Obj)) ∈ news) (hx : PyData.strOk x = true) (hu : A.units + 64 < cLine) (h : Q (.bool false) s) :
    wpAny (model prog w) A (compareOp .NotEq (.ref T1) (.ref T2)) Q E s := by
  have hs : SeqAt.shaped (.tuple [.str x, .int c]) = true := by
    simp [SeqAt.shaped, PyData.canLay0, PyData.canLayAll0, PyData.depth, PyData.depthAll, hx]
  refine ne_dataH (reads_tuple_at (N _ h1).1 rfl rfl (ReadsAll.cons (Reads.str _ _) (ReadsAll.cons (Reads.int _ _) ReadsAll.nil))) (reads_tuple_at (N _ h2).1 rfl rfl (ReadsAll.cons (Reads.str _ _) (ReadsAll.cons (Reads.int _ _) ReadsAll.nil))) hs hs hu ?_
  have e : PyData.eqv (.tuple [.str x, .int c]) (.tuple [.str x, .int c]) = true := by simp [PyData.eqv, PyData.eqvAll]
  rw [e]
  exact h
theorem mended_len {lb : List Int} {c : Int} (h : Bits lb) (h0 : 0 ≤ c) (h1 : c < 5) : (mendedF lb c).length = lb.length + 1 := by
  have H : ∀ bs ∈ allBits 2 ++ allBits 3, ∀ c : Fin 5, (mendedF bs (c.val : Int)).length = bs.length + 1 := by decide +kernel
  have := H lb (bits_mem h) ⟨c.toNat, by omega⟩
  dsimp only at this
  rwa [show ((c.toNat : Nat) : Int) = c by omega] at this
noncomputable def costF (n : Int) : Int := if [Str.ofString "xX", Str.ofString "Xx"].any (fun x => x == lettersF n) = true then 1 else 2
theorem cost_bd (n : Int) : costF n = 1 ∨ costF n = 2 := by unfold costF; split <;> simp
theorem misses_bd (a b : List Int) : 0 ≤ missesF a b ∧ missesF a b ≤ a.length := by
  unfold missesF
  refine ⟨Int.natCast_nonneg _, ?_⟩
  have key : ∀ (l : List Int) (acc : List Int), (List.foldl (fun l' k' => if ¬a.getD k'.toNat 0 = b.getD k'.toNat 0 then l' ++ [k'] else l') acc l).length ≤ acc.length + l.length := by
    intro l
    induction l with
    | nil => intro acc; simp
    | cons x r ih =>
      intro acc
      rw [List.foldl_cons]
      refine Nat.le_trans (ih _) ?_
      split <;> simp <;> omega
  have := key (rangeKs 0 ((a.length : Int) - 0).toNat) []
  rw [rangeKs_length] at this
  simp only [List.length_nil] at this
  omega
theorem item_refs {prog : Program} {w : World} {A : Around} {E : Value → Shared → Prop} {s : Shared} {h₀ : Heap} {L : Addr} {news : List (Addr × Obj)} {value slice : Expr} {l : Addr} {vs : List Value} {n : Nat} {k : Int} {u : Tok} {v : Value} {Q : Value → Shared → Prop}
    (N : News h₀ L s.heap news) (hm : (l, ({ cls := .type "list", data := .seq vs.toArray n } : Obj)) ∈ news) (h0 : 0 ≤ k) (h1 : k < 100) (hx : vs[k.toNat]? = some v) (h : Q v s)
    (hs : subscripted slice false (.ref l) (.int k u) = operate [.ref l, .int k u] (getItem (.ref l) (.int k u)) := by with_unfolding_all rfl) :
    wpAny (model prog w) A (subscriptTail value slice (.ref l) (.int k u)) Q E s := by
  have hl : s.heap.IsList l vs.toArray := ⟨_, (N _ hm).1, rfl, _, rfl⟩
  exact tail_any hl.typeIs slot_list_getitem.lookup (wpAny_getItem_list hl h0 (by omega) (by simpa using hx) h) hs
noncomputable def IsMin4 (M a b c d : Int) : Prop := (M = a ∨ M = b ∨ M = c ∨ M = d) ∧ M ≤ a ∧ M ≤ b ∧ M ≤ c ∧ M ≤ d
noncomputable def IsMin5 (M a b c d e : Int) : Prop := (M = a ∨ M = b ∨ M = c ∨ M = d ∨ M = e) ∧ M ≤ a ∧ M ≤ b ∧ M ≤ c ∧ M ≤ d ∧ M ≤ e
noncomputable def Least3 (lb : List Int) (k M : Int) : Prop := IsMin4 M (missesF (rowF 3 k) (mendedF lb 0)) (missesF (rowF 3 k) (mendedF lb 1)) (missesF (rowF 3 k) (mendedF lb 2)) (missesF (rowF 3 k) (mendedF lb 3))
noncomputable def Least4 (lb : List Int) (k M : Int) : Prop := IsMin5 M (missesF (rowF 4 k) (mendedF lb 0)) (missesF (rowF 4 k) (mendedF lb 1)) (missesF (rowF 4 k) (mendedF lb 2)) (missesF (rowF 4 k) (mendedF lb 3)) (missesF (rowF 4 k) (mendedF lb 4))
end Mine

-- P9
open PySem PySem.W PyProof.Rows PyProof
set_option Elab.async false
set_option maxRecDepth 100000
set_option linter.unusedVariables false
namespace Mine
/-- the distance by any table of costs -/
noncomputable def inStepK (K : Nat → Nat → Int) (c : Nat) (A : List Nat) (st : DSt) (i : Int) : DSt :=
  let d := st.2.2.2.getD i.toNat 0
  let r := pmin (pmin st.2.1 d + 2) (st.1 + K c (A.getD i.toNat 0))
  (d, r, if r < st.2.2.1 then r else st.2.2.1, st.2.2.2.set i.toNat r)
noncomputable def inAllK (K : Nat → Nat → Int) (c : Nat) (A : List Nat) (d : Int) (row : List Int) : DSt := (upto A.length).foldl (inStepK K c A) (d, d, 9223372036854775807, row)
noncomputable def outStepK (K : Nat → Nat → Int) (A B : List Nat) (b : Int) (st : Option (Int × List Int)) (i : Int) : Option (Int × List Int) :=
  st.bind fun q => let o := inAllK K (B.getD i.toNat 0) A (i * 2) q.2; if o.2.2.1 > b then none else some (o.2.1, o.2.2.2)
noncomputable def levCoreK (K : Nat → Nat → Int) (A B : List Nat) (b : Int) : Int := match (upto B.length).foldl (outStepK K A B b) (some (0, row0 A.length)) with
  | none => b + 1
  | some q => q.1
noncomputable def levGK (K : Nat → Nat → Int) (A B : List Nat) (b : Int) : Int :=
  if A = [] ∨ B = [] then 2 * (A.length + B.length)
  else if B.length < A.length then (if (A.length - B.length : Int) * 2 > b then b + 1 else levCoreK K B A b)
  else (if (B.length - A.length : Int) * 2 > b then b + 1 else levCoreK K A B b)
noncomputable def levK (K : Nat → Nat → Int) (X Y : List Nat) (b : Int) : Int :=
  if X = Y then 0 else
  let p := cp X Y
  let A := X.drop p
  let B := Y.drop p
  let q := cp A.reverse B.reverse
  levGK K (A.take (A.length - q)) (B.take (B.length - q)) b
theorem levF_K (X Y : List Nat) (b : Int) : levF X Y b = levK costN X Y b := rfl

theorem foldl_same {α β : Type} {g h : α → β → α} : ∀ (l : List β) (s : α), (∀ s, ∀ i ∈ l, g s i = h s i) → l.foldl g s = l.foldl h s
  | [], _, _ => rfl
  | a :: r, s, e => by
    rw [List.foldl_cons, List.foldl_cons, e s a (.head _)]
    exact foldl_same r _ fun s i hi => e s i (.tail _ hi)
section
variable {K K' : Nat → Nat → Int} {f : Nat → Nat} {S : Nat → Prop}
theorem getD_map_in {A : List Nat} {j : Nat} (h : j < A.length) : (A.map f).getD j 0 = f (A.getD j 0) := by
  simp [List.getD_eq_getElem?_getD, h]
theorem getD_in {A : List Nat} {j : Nat} (h : j < A.length) (hA : ∀ x ∈ A, S x) : S (A.getD j 0) := by
  have : A.getD j 0 = A[j] := by simp [List.getD_eq_getElem?_getD, h]
  rw [this]; exact hA _ (List.getElem_mem h)
theorem upto_lt {n : Nat} {i : Int} (h : i ∈ upto n) : i.toNat < n := by
  have := mem_rangeKs h
  omega
theorem inAllK_map (hK : ∀ x y, S x → S y → K (f x) (f y) = K' x y) {c : Nat} {A : List Nat} (hc : S c) (hA : ∀ x ∈ A, S x) (d : Int) (row : List Int) : inAllK K (f c) (A.map f) d row = inAllK K' c A d row := by
  unfold inAllK
  rw [List.length_map]
  refine foldl_same _ _ fun st i hi => ?_
  have hl := upto_lt hi
  unfold inStepK
  rw [getD_map_in hl, hK _ _ hc (getD_in hl hA)]
theorem levCoreK_map (hK : ∀ x y, S x → S y → K (f x) (f y) = K' x y) {A B : List Nat} (hA : ∀ x ∈ A, S x) (hB : ∀ x ∈ B, S x) (b : Int) : levCoreK K (A.map f) (B.map f) b = levCoreK K' A B b := by
  have e : (upto (B.map f).length).foldl (outStepK K (A.map f) (B.map f) b) (some (0, row0 (A.map f).length)) = (upto B.length).foldl (outStepK K' A B b) (some (0, row0 A.length)) := by
    rw [List.length_map, List.length_map]
    refine foldl_same _ _ fun st i hi => ?_
    have hl := upto_lt hi
    unfold outStepK
    rw [getD_map_in hl]
    congr 1
    funext q
    rw [inAllK_map hK (getD_in hl hB) hA]
  unfold levCoreK
  rw [e]
theorem map_inj (hf : ∀ x y, S x → S y → f x = f y → x = y) : ∀ {A B : List Nat}, (∀ x ∈ A, S x) → (∀ x ∈ B, S x) → A.map f = B.map f → A = B
  | [], [], _, _, _ => rfl
  | [], _ :: _, _, _, h => by cases h
  | _ :: _, [], _, _, h => by cases h
  | a :: r, b :: q, hA, hB, h => by
    rw [List.map_cons, List.map_cons] at h
    injection h with h1 h2
    rw [hf a b (hA _ (.head _)) (hB _ (.head _)) h1, map_inj hf (fun x hx => hA x (.tail _ hx)) (fun x hx => hB x (.tail _ hx)) h2]
theorem cp_map (hf : ∀ x y, S x → S y → f x = f y → x = y) : ∀ {A B : List Nat}, (∀ x ∈ A, S x) → (∀ x ∈ B, S x) → cp (A.map f) (B.map f) = cp A B
  | [], [], _, _ => rfl
  | [], _ :: _, _, _ => rfl
  | _ :: _, [], _, _ => rfl
  | a :: r, b :: q, hA, hB => by
    rw [List.map_cons, List.map_cons]
    unfold cp
    rw [cp_map hf (fun x hx => hA x (.tail _ hx)) (fun x hx => hB x (.tail _ hx))]
    by_cases h : a = b
    · subst h; rw [if_pos rfl, if_pos rfl]
    · rw [if_neg h, if_neg fun e => h (hf a b (hA _ (.head _)) (hB _ (.head _)) e)]
theorem levGK_map (hK : ∀ x y, S x → S y → K (f x) (f y) = K' x y) {A B : List Nat} (hA : ∀ x ∈ A, S x) (hB : ∀ x ∈ B, S x) (b : Int) : levGK K (A.map f) (B.map f) b = levGK K' A B b := by
  unfold levGK
  rw [levCoreK_map hK hA hB, levCoreK_map hK hB hA]
  simp only [List.length_map, List.map_eq_nil_iff]
theorem levK_map (hf : ∀ x y, S x → S y → f x = f y → x = y) (hK : ∀ x y, S x → S y → K (f x) (f y) = K' x y) {A B : List Nat} (hA : ∀ x ∈ A, S x) (hB : ∀ x ∈ B, S x) (b : Int) : levK K (A.map f) (B.map f) b = levK K' A B b := by
  unfold levK
  by_cases h : A = B
  · subst h; rw [if_pos rfl, if_pos rfl]
  · rw [if_neg h, if_neg fun e => h (map_inj hf hA hB e)]
    have hA' : ∀ x ∈ A.drop (cp A B), S x := fun x hx => hA x (List.mem_of_mem_drop hx)
    have hB' : ∀ x ∈ B.drop (cp A B), S x := fun x hx => hB x (List.mem_of_mem_drop hx)
    have e1 := cp_map hf hA hB
    have e2 := cp_map (A := (A.drop (cp A B)).reverse) (B := (B.drop (cp A B)).reverse) hf (fun x hx => hA' x (List.mem_reverse.mp hx)) (fun x hx => hB' x (List.mem_reverse.mp hx))
    simp only [e1, ← List.map_drop, ← List.map_reverse, e2, List.length_map, ← List.map_take]
    exact levGK_map hK (fun x hx => hA' x (List.mem_of_mem_take hx)) (fun x hx => hB' x (List.mem_of_mem_take hx)) b
end

/-- codes: 0, 1 the two letters, then a, b, k, j -/
noncomputable def KC (c : Int) (x y : Nat) : Int := if x = y then 0 else if x < 2 ∧ y < 2 then c else 2
noncomputable def chr (n : Int) (x : Nat) : Nat := if x < 2 then (lettersN n).getD x 0 else if x = 2 then 97 else if x = 3 then 98 else if x = 4 then 107 else 106
theorem chr_facts : ∀ n : Fin 12, (∀ x : Fin 6, ∀ y : Fin 6, chr n.val x.val = chr n.val y.val → x = y) ∧ (∀ x : Fin 6, ∀ y : Fin 6, costN (chr n.val x.val) (chr n.val y.val) = KC (costF n.val) x.val y.val) := by decide +kernel
theorem chr_inj {n : Int} (h0 : 0 ≤ n) (h1 : n < 12) (x y : Nat) (hx : x < 6) (hy : y < 6) (h : chr n x = chr n y) : x = y := by
  have := (chr_facts ⟨n.toNat, by omega⟩).1 ⟨x, hx⟩ ⟨y, hy⟩
  dsimp only at this
  rw [show ((n.toNat : Nat) : Int) = n by omega] at this
  exact congrArg Fin.val (this h)
theorem chr_cost {n : Int} (h0 : 0 ≤ n) (h1 : n < 12) (x y : Nat) (hx : x < 6) (hy : y < 6) : costN (chr n x) (chr n y) = KC (costF n) x y := by
  have := (chr_facts ⟨n.toNat, by omega⟩).2 ⟨x, hx⟩ ⟨y, hy⟩
  dsimp only at this
  rwa [show ((n.toNat : Nat) : Int) = n by omega] at this
theorem lev_codes {n b : Int} {A B : List Nat} (h0 : 0 ≤ n) (h1 : n < 12) (hA : ∀ x ∈ A, x < 6) (hB : ∀ x ∈ B, x < 6) : levF (A.map (chr n)) (B.map (chr n)) b = levK (KC (costF n)) A B b := by
  rw [levF_K]
  exact levK_map (S := fun x => x < 6) (fun x y => chr_inj h0 h1 x y) (fun x y => chr_cost h0 h1 x y) hA hB b
noncomputable def codes (bs : List Int) : List Nat := bs.map Int.toNat
theorem codes_lt {bs : List Int} (h : Bin bs) : ∀ x ∈ codes bs, x < 6 := fun x hx => by
  obtain ⟨b, hb, rfl⟩ := List.mem_map.mp hx
  rcases h b hb with rfl | rfl <;> decide
theorem word_codes {n : Int} {bs : List Int} (h : Bin bs) : wordN n bs = (codes bs).map (chr n) := by
  unfold wordN codes
  rw [List.map_map]
  refine List.map_congr_left fun b hb => ?_
  have : b.toNat < 2 := by rcases h b hb with rfl | rfl <;> decide
  simp only [Function.comp, chr]
  rw [if_pos this]
theorem cost_cases {P : Int → Prop} {n : Int} (h1 : P 1) (h2 : P 2) : P (costF n) := by
  rcases cost_bd n with e | e <;> rw [e]
  · exact h1
  · exact h2
theorem lev_ends {n : Int} {bs : List Int} (h0 : 0 ≤ n) (h1 : n < 12) (hb : Bits bs) : levF (tl (Str.ofString "ab" ++ wordF n bs ++ Str.ofString "k")) (tl (Str.ofString "jab" ++ wordF n bs)) 4 = 4 := by
  have e1 : tl (Str.ofString "ab") = [2, 3].map (chr n) := by
    have : tl (Str.ofString "ab") = [97, 98] := by decide +kernel
    rw [this]; rfl
  have e2 : tl (Str.ofString "k") = [4].map (chr n) := by
    have : tl (Str.ofString "k") = [107] := by decide +kernel
    rw [this]; rfl
  have e3 : tl (Str.ofString "jab") = [5, 2, 3].map (chr n) := by
    have : tl (Str.ofString "jab") = [106, 97, 98] := by decide +kernel
    rw [this]; rfl
  rw [tl_app, tl_app, tl_app, e1, e2, e3, tl_word h0 h1 hb.2, word_codes hb.2, ← List.map_append, ← List.map_append, ← List.map_append]
  have hc := codes_lt hb.2
  rw [lev_codes h0 h1 (fun x hx => by simp only [List.mem_append, List.mem_cons, List.not_mem_nil, or_false] at hx; rcases hx with (((rfl | rfl) | h) | rfl) <;> first | decide | exact hc x h) (fun x hx => by simp only [List.mem_append, List.mem_cons, List.not_mem_nil, or_false] at hx; rcases hx with ((rfl | rfl | rfl) | h) <;> first | decide | exact hc x h)]
  have H1 : ∀ bs ∈ allBits 2 ++ allBits 3, levK (KC 1) ([2, 3] ++ codes bs ++ [4]) ([5, 2, 3] ++ codes bs) 4 = 4 := by decide +kernel
  have H2 : ∀ bs ∈ allBits 2 ++ allBits 3, levK (KC 2) ([2, 3] ++ codes bs ++ [4]) ([5, 2, 3] ++ codes bs) 4 = 4 := by decide +kernel
  exact cost_cases (P := fun c => levK (KC c) ([2, 3] ++ codes bs ++ [4]) ([5, 2, 3] ++ codes bs) 4 = 4) (H1 bs (bits_mem hb)) (H2 bs (bits_mem hb))
noncomputable def least3 (lb : List Int) (k : Int) : Int := min (missesF (rowF 3 k) (mendedF lb 0)) (min (missesF (rowF 3 k) (mendedF lb 1)) (min (missesF (rowF 3 k) (mendedF lb 2)) (missesF (rowF 3 k) (mendedF lb 3))))
noncomputable def least4 (lb : List Int) (k : Int) : Int := min (missesF (rowF 4 k) (mendedF lb 0)) (min (missesF (rowF 4 k) (mendedF lb 1)) (min (missesF (rowF 4 k) (mendedF lb 2)) (min (missesF (rowF 4 k) (mendedF lb 3)) (missesF (rowF 4 k) (mendedF lb 4)))))
theorem least3_eq {lb : List Int} {k M : Int} (h : Least3 lb k M) : M = least3 lb k := by
  unfold Least3 IsMin4 at h; unfold least3; omega
theorem least4_eq {lb : List Int} {k M : Int} (h : Least4 lb k M) : M = least4 lb k := by
  unfold Least4 IsMin5 at h; unfold least4; omega
noncomputable def dueOk (c : Int) (A B : List Nat) (m : Int) : Bool := (List.range 3).all fun r => levK (KC c) A B (2 + c * m - 1 + (r : Int)) == 2 + c * m && levK (KC c) B A (2 + c * m - 1 + (r : Int)) == 2 + c * m
theorem dueOk_at {c : Int} {A B : List Nat} {m r : Int} (h : dueOk c A B m = true) (hr : 0 ≤ r ∧ r < 3) : levK (KC c) A B (2 + c * m - 1 + r) = 2 + c * m ∧ levK (KC c) B A (2 + c * m - 1 + r) = 2 + c * m := by
  have := List.all_eq_true.mp h r.toNat (List.mem_range.mpr (by omega))
  rw [show ((r.toNat : Nat) : Int) = r by omega, Bool.and_eq_true, beq_iff_eq, beq_iff_eq] at this
  exact this
theorem due3_all : ∀ lb ∈ allBits 2, ∀ k : Fin 8, dueOk 1 (codes lb) (codes (rowF 3 k.val)) (least3 lb k.val) = true ∧ dueOk 2 (codes lb) (codes (rowF 3 k.val)) (least3 lb k.val) = true := by decide +kernel
theorem due4_all : ∀ lb ∈ allBits 3, ∀ k : Fin 16, dueOk 1 (codes lb) (codes (rowF 4 k.val)) (least4 lb k.val) = true ∧ dueOk 2 (codes lb) (codes (rowF 4 k.val)) (least4 lb k.val) = true := by decide +kernel
theorem lev_due3 {n k M due r : Int} {lb : List Int} (h0 : 0 ≤ n) (h1 : n < 12) (hb : Bits lb) (hl : lb.length = 2) (k0 : 0 ≤ k) (k8 : k < 8) (hM : Least3 lb k M) (hd : due = costF n * M) (hr : 0 ≤ r ∧ r < 3) :
    levF (tl (wordF n lb)) (tl (wordF n (rowF 3 k))) (2 + due - 1 + r) = 2 + due ∧ levF (tl (wordF n (rowF 3 k))) (tl (wordF n lb)) (2 + due - 1 + r) = 2 + due := by
  have hrow := (row3 k0 k8).2.2.1
  rw [tl_word h0 h1 hb.2, tl_word h0 h1 hrow, word_codes hb.2, word_codes hrow, lev_codes h0 h1 (codes_lt hb.2) (codes_lt hrow), lev_codes h0 h1 (codes_lt hrow) (codes_lt hb.2), hd, least3_eq hM]
  have H := due3_all lb (bits_all 2 lb hl hb.2) ⟨k.toNat, by omega⟩
  dsimp only at H
  rw [show ((k.toNat : Nat) : Int) = k by omega] at H
  exact cost_cases (P := fun c => levK (KC c) (codes lb) (codes (rowF 3 k)) (2 + c * least3 lb k - 1 + r) = 2 + c * least3 lb k ∧ levK (KC c) (codes (rowF 3 k)) (codes lb) (2 + c * least3 lb k - 1 + r) = 2 + c * least3 lb k) (dueOk_at H.1 hr) (dueOk_at H.2 hr)
theorem lev_due4 {n k M due r : Int} {lb : List Int} (h0 : 0 ≤ n) (h1 : n < 12) (hb : Bits lb) (hl : lb.length = 3) (k0 : 0 ≤ k) (k8 : k < 16) (hM : Least4 lb k M) (hd : due = costF n * M) (hr : 0 ≤ r ∧ r < 3) :
    levF (tl (wordF n lb)) (tl (wordF n (rowF 4 k))) (2 + due - 1 + r) = 2 + due ∧ levF (tl (wordF n (rowF 4 k))) (tl (wordF n lb)) (2 + due - 1 + r) = 2 + due := by
  have hrow := (row4 k0 k8).2.2.1
  rw [tl_word h0 h1 hb.2, tl_word h0 h1 hrow, word_codes hb.2, word_codes hrow, lev_codes h0 h1 (codes_lt hb.2) (codes_lt hrow), lev_codes h0 h1 (codes_lt hrow) (codes_lt hb.2), hd, least4_eq hM]
  have H := due4_all lb (bits_all 3 lb hl hb.2) ⟨k.toNat, by omega⟩
  dsimp only at H
  rw [show ((k.toNat : Nat) : Int) = k by omega] at H
  exact cost_cases (P := fun c => levK (KC c) (codes lb) (codes (rowF 4 k)) (2 + c * least4 lb k - 1 + r) = 2 + c * least4 lb k ∧ levK (KC c) (codes (rowF 4 k)) (codes lb) (2 + c * least4 lb k - 1 + r) = 2 + c * least4 lb k) (dueOk_at H.1 hr) (dueOk_at H.2 hr)
theorem same3_all : ∀ lb ∈ allBits 2, ∀ k : Fin 8, (least3 lb k.val = 0 ↔ rowF 3 k.val = mendedF lb ((weighedF (rowF 3 k.val)).fmod 4)) := by decide +kernel
theorem same4_all : ∀ lb ∈ allBits 3, ∀ k : Fin 16, (least4 lb k.val = 0 ↔ rowF 4 k.val = mendedF lb ((weighedF (rowF 4 k.val)).fmod 5)) := by decide +kernel
theorem due_zero {n due M : Int} (hd : due = costF n * M) : 2 + due = 2 ↔ M = 0 := by
  rcases cost_bd n with e | e <;> rw [e] at hd <;> omega
theorem same3 {n k M due : Int} {lb : List Int} (hb : Bits lb) (hl : lb.length = 2) (k0 : 0 ≤ k) (k8 : k < 8) (hM : Least3 lb k M) (hd : due = costF n * M) : (2 + due = 2 ↔ rowF 3 k = mendedF lb ((weighedF (rowF 3 k)).fmod 4)) := by
  rw [due_zero hd, least3_eq hM]
  have H := same3_all lb (bits_all 2 lb hl hb.2) ⟨k.toNat, by omega⟩
  dsimp only at H
  rwa [show ((k.toNat : Nat) : Int) = k by omega] at H
theorem same4 {n k M due : Int} {lb : List Int} (hb : Bits lb) (hl : lb.length = 3) (k0 : 0 ≤ k) (k8 : k < 16) (hM : Least4 lb k M) (hd : due = costF n * M) : (2 + due = 2 ↔ rowF 4 k = mendedF lb ((weighedF (rowF 4 k)).fmod 5)) := by
  rw [due_zero hd, least4_eq hM]
  have H := same4_all lb (bits_all 3 lb hl hb.2) ⟨k.toNat, by omega⟩
  dsimp only at H
  rwa [show ((k.toNat : Nat) : Int) = k by omega] at H
end Mine

-- P15
open PySem PySem.W PyProof.Rows PyProof
set_option Elab.async false
set_option maxRecDepth 100000
set_option linter.unusedVariables false
namespace Mine
theorem PureE.callF {prog : Program} {w : World} {K : Frag} {p : Program} {loose : List Str} {mean : ExcName → Option Value} {mg mb : Str → Option Value} {f : Addr} {dd uu : Nat} {vs : List Value} {t : Led} {R : Heap → Led → Prop} {Pre : Heap → Prop} {Post : Heap → Value → Heap → Prop}
    (C : PureE prog w K p loose mean mg mb f dd uu vs t (fun g t' => TabsTo w t g t' ∧ R g t') Pre Post) (hft : FilT w t) {dp un : Nat} {gd : Option (List Code)} {cn : Str} {cs : Scope} {a : Addr} {ccd : Value} {cl : List (Str × Addr)} {outer : List Env} {A₀ : Around} {base h₀ : Heap} {L : Addr} {m : Str → Option Value} {s : Shared} {Q E : Value → Shared → Prop} {news : Led}
    (B : Below A₀ base outer h₀) (F : Fr h₀ L s.heap m) (X : K.In h₀) (T : Top p loose mean mg mb h₀) (N : News h₀ L s.heap news) (hk : cs.kind = .function) (hd : dp + dd < recursionLimit) (hu : un + uu < cLine) (ht : ∀ q ∈ t, q ∈ news) (hp : Pre s.heap)
    (ret : ∀ v h' tk', s.heap.StaysIn h' → Post s.heap v h' → Fr h₀ L h' m → News h₀ L h' news → Q v { s with heap := h', toks := tk' }) :
    wpAny (model prog w) (ktrTop dp un gd cn cs L a ccd cl outer) (PySem.call (.ref f) vs) Q E s := by
  have NT : News h₀ L s.heap t := fun q hq => N q (ht q hq)
  refine C dp un gd cn cs a ccd cl outer A₀ base h₀ L m s Q E B F X T hk hd hu NT hp fun v h' tk' tout st N' rr q => ?_
  obtain rfl := rr.1.2.2.2 hft
  have k : s.heap.StaysIn h' := fun b o e => by
    by_cases hm : b ∈ tout.map (·.1)
    · obtain ⟨r, hr, e2⟩ := List.mem_map.mp hm
      have e3 := (NT r hr).1
      rw [e2, e] at e3
      rw [Option.some.inj e3, ← e2]
      exact (N' r hr).1
    · exact st b o hm e
  exact ret v h' tk' k q (Fr.stays F k) (News.stays N k)
theorem filled1_of {w : World} {t news : Led} {h₀ h : Heap} {L : Addr} (H : FilT w t) (N : News h₀ L h news) (ht : ∀ q ∈ t, q ∈ news) : Filled 44 (defPos (fnAt w.params 49)) (Str.ofString "_int2digits.<locals>.inner") h := by
  obtain ⟨a, b, rfl, ⟨g, h1⟩, _⟩ := H
  exact filled_led h1 fun q hq => (N q (ht q (List.mem_append_left _ hq))).1
theorem FilT.tabs {w : World} {t : Led} (H : FilT w t) : (∃ ps, (44, tabObj ps) ∈ t) ∧ ∃ ps, (51, tabObj ps) ∈ t := by
  obtain ⟨a, b, rfl, ⟨_, ps, c', oc, vs, t', rfl, _⟩, ⟨_, ps2, c2, oc2, vs2, t2, rfl, _⟩⟩ := H
  exact ⟨⟨ps, .head _⟩, ⟨ps2, .tail _ (.tail _ (.head _))⟩⟩
theorem rowsLed_like : ∀ {Rs : List Addr} {ks : List Nat} {us : List (List Value)}, ∀ q ∈ rowsLed Rs ks us, ∃ u k, q.2 = listOf u k
  | [], _, _, q, h => by simp [rowsLed] at h
  | R :: Rs, k :: ks, u :: us, q, h => by
    rcases List.mem_cons.mp h with rfl | h
    · exact ⟨_, _, rfl⟩
    · exact rowsLed_like q h
  | _ :: _, [], _, q, h => by simp [rowsLed] at h
  | _ :: _, _ :: _, [], q, h => by simp [rowsLed] at h
theorem rowsLed_snoc : ∀ {Rs : List Addr} {ks : List Nat} {us : List (List Value)} {R : Addr} {k : Nat} {u : List Value}, ks.length = Rs.length → us.length = Rs.length → rowsLed (Rs ++ [R]) (ks ++ [k]) (us ++ [u]) = rowsLed Rs ks us ++ [(R, listOf u.toArray k)]
  | [], [], [], _, _, _, _, _ => rfl
  | R :: Rs, k :: ks, u :: us, _, _, _, h1, h2 => by
    simp only [List.length_cons] at h1 h2
    show _ :: rowsLed (Rs ++ _) (ks ++ _) (us ++ _) = _ :: _
    rw [rowsLed_snoc (by omega) (by omega)]
    rfl
  | [], _ :: _, _, _, _, _, h, _ => by simp at h
  | [], [], _ :: _, _, _, _, _, h => by simp at h
  | _ :: _, [], _, _, _, _, h, _ => by simp at h
  | _ :: _, _ :: _, [], _, _, _, _, h => by simp at h
theorem Fr.norm {g h : Heap} {L : Addr} {m : Str → Option Value} (ps : List (Str × Value)) (F : Fr g L h m) (hp : ∀ p ∈ ps, m p.1 = some p.2) : ∃ u, Fr g L h (kstB u ps) := ⟨m, Fr.kst ps F hp⟩
theorem comp_ind {prog : Program} {w : World} {A : Around} {h₀ : Heap} {L : Addr} {m : Str → Option Value} {env : Env} {elt : PySem.Expr} {x : Str} {scope : Scope} {cl : List (Str × Addr)} {s : Shared} {S : Led → Prop} {P : Nat → Value → Prop} {Fin : List Value → Led → Prop} (J : Nat → List Value → Led → Prop) (n : Nat)
    (turn : ∀ i ys news, i < n → J i ys news → ∀ v I oI C oC D m₂ h tk (E' : Value → Shared → Prop), P i v → LCg.NsObj oC m₂ → m₂ x = some v → Fr h₀ L h m → News h₀ L h ((I, oI) :: (C, oC) :: (D, LCg.lst ys) :: news) → LCg.Off3 I C D news → ((@Ne Nat I C) ∧ (@Ne Nat I D) ∧ (@Ne Nat C D)) →
      wpAny (model prog w) A (eval elt (compEnvC scope cl C env)) (LCg.CompEnd h₀ L m { s with heap := h, toks := tk } I oI C oC D (LCg.lst ys) S (fun y news' => J (i + 1) (ys ++ [y]) news')) E' { s with heap := h, toks := tk })
    (fin : ∀ ys news, J n ys news → Fin ys news) : ∀ k i ys news, i + k = n → J i ys news → LCg.CompRest prog w A h₀ L m env elt x scope cl s S P Fin k i ys news
  | 0, i, ys, news, e, hj => LCg.CompRest.zero (fin ys news (by rw [Nat.add_zero] at e; rw [← e]; exact hj))
  | k + 1, i, ys, news, e, hj => LCg.CompRest.succ fun v I oI C oC D m₂ h tk E' hv hC hx F N off ne =>
    wpAny_mono (turn i ys news (by omega) hj v I oI C oC D m₂ h tk E' hv hC hx F N off ne) (fun y s₂ q => by
      obtain ⟨h', tk', news', e1, F', N', off', hS, r⟩ := q
      exact ⟨h', tk', news', e1, F', N', off', hS, comp_ind J n turn fin k (i + 1) _ _ (by omega) r⟩) fun _ _ z => z
end Mine

-- P16
open PySem PySem.W PyProof.Rows PyProof
set_option Elab.async false
set_option maxRecDepth 100000
set_option linter.unusedVariables false
namespace Mine
/-- the size of the rows -/
noncomputable abbrev sz (lb : List Int) : Nat := lb.length + 1
theorem pow_sz {lb : List Int} (hb : Bits lb) : (2 : Int) ^ Int.toNat ((lb.length : Int) + 1) = (2 ^ sz lb : Nat) ∧ 8 ≤ 2 ^ sz lb ∧ 2 ^ sz lb ≤ 16 := by
  rcases hb.1 with e | e <;> (unfold sz; rw [e]; exact ⟨rfl, by decide, by decide⟩)
theorem rowS {lb : List Int} {k : Int} (hb : Bits lb) (h0 : 0 ≤ k) (h1 : k < (2 ^ sz lb : Nat)) : dg 1 (((2 ^ sz lb : Nat) : Int) + k).toNat (ndig 1 (((2 ^ sz lb : Nat) : Int) + k)) = rowF (sz lb) k ++ [1] ∧ (rowF (sz lb) k).length = sz lb ∧ Bin (rowF (sz lb) k) ∧ 0 ≤ weighedF (rowF (sz lb) k) ∧ weighedF (rowF (sz lb) k) ≤ 10 := by
  rcases hb.1 with e | e
  · rw [show sz lb = 3 by unfold sz; rw [e]] at h1 ⊢; exact row3 h0 h1
  · rw [show sz lb = 4 by unfold sz; rw [e]] at h1 ⊢; exact row4 h0 h1
theorem wordOkS {lb : List Int} {n k : Int} (hb : Bits lb) (h0 : 0 ≤ n) (h1 : n < 12) (k0 : 0 ≤ k) (k1 : k < (2 ^ sz lb : Nat)) : PyData.strOk (wordF n (rowF (sz lb) k)) = true := by
  rcases hb.1 with e | e
  · rw [show sz lb = 3 by unfold sz; rw [e]] at k1 ⊢; exact wordOk3 h0 h1 k0 k1
  · rw [show sz lb = 4 by unfold sz; rw [e]] at k1 ⊢; exact wordOk4 h0 h1 k0 k1
noncomputable def missL (lb : List Int) (k : Int) : List Int := (List.range (lb.length + 2)).map fun (j : Nat) => missesF (rowF (sz lb) k) (mendedF lb (j : Int))
structure LeastS (lb : List Int) (k M : Int) : Prop where
  mem : M ∈ missL lb k
  le : ∀ x ∈ missL lb k, M ≤ x
theorem LeastS.three {lb : List Int} {k M : Int} (h : LeastS lb k M) (e : lb.length = 2) : Least3 lb k M := by
  have el : missL lb k = [missesF (rowF 3 k) (mendedF lb 0), missesF (rowF 3 k) (mendedF lb 1), missesF (rowF 3 k) (mendedF lb 2), missesF (rowF 3 k) (mendedF lb 3)] := by
    unfold missL sz; rw [e]; rfl
  obtain ⟨h1, h2⟩ := h
  rw [el] at h1 h2
  simp only [List.mem_cons, List.mem_nil_iff, or_false] at h1
  exact ⟨h1, h2 _ (by simp), h2 _ (by simp), h2 _ (by simp), h2 _ (by simp)⟩
theorem LeastS.four {lb : List Int} {k M : Int} (h : LeastS lb k M) (e : lb.length = 3) : Least4 lb k M := by
  have el : missL lb k = [missesF (rowF 4 k) (mendedF lb 0), missesF (rowF 4 k) (mendedF lb 1), missesF (rowF 4 k) (mendedF lb 2), missesF (rowF 4 k) (mendedF lb 3), missesF (rowF 4 k) (mendedF lb 4)] := by
    unfold missL sz; rw [e]; rfl
  obtain ⟨h1, h2⟩ := h
  rw [el] at h1 h2
  simp only [List.mem_cons, List.mem_nil_iff, or_false] at h1
  exact ⟨h1, h2 _ (by simp), h2 _ (by simp), h2 _ (by simp), h2 _ (by simp), h2 _ (by simp)⟩
theorem LeastS.bd {lb : List Int} {k M : Int} (hb : Bits lb) (k0 : 0 ≤ k) (k1 : k < (2 ^ sz lb : Nat)) (h : LeastS lb k M) : 0 ≤ M ∧ M ≤ 4 := by
  obtain ⟨j, _, rfl⟩ := List.mem_map.mp h.mem
  have h1 := misses_bd (rowF (sz lb) k) (mendedF lb (j : Int))
  have h2 := (rowS hb k0 k1).2.1
  rw [h2] at h1
  have h3 := hb.1
  have h4 : sz lb ≤ 4 := by unfold sz; omega
  omega
theorem lev_dueS {n k M due r : Int} {lb : List Int} (h0 : 0 ≤ n) (h1 : n < 12) (hb : Bits lb) (k0 : 0 ≤ k) (k8 : k < (2 ^ sz lb : Nat)) (hM : LeastS lb k M) (hd : due = costF n * M) (hr : 0 ≤ r ∧ r < 3) :
    levF (tl (wordF n lb)) (tl (wordF n (rowF (sz lb) k))) (2 + due - 1 + r) = 2 + due ∧ levF (tl (wordF n (rowF (sz lb) k))) (tl (wordF n lb)) (2 + due - 1 + r) = 2 + due := by
  rcases hb.1 with e | e
  · have hM := hM.three e
    rw [show sz lb = 3 by unfold sz; rw [e]] at k8 ⊢
    exact lev_due3 h0 h1 hb e k0 k8 hM hd hr
  · have hM := hM.four e
    rw [show sz lb = 4 by unfold sz; rw [e]] at k8 ⊢
    exact lev_due4 h0 h1 hb e k0 k8 hM hd hr
theorem sameS {n k M due : Int} {lb : List Int} (hb : Bits lb) (k0 : 0 ≤ k) (k8 : k < (2 ^ sz lb : Nat)) (hM : LeastS lb k M) (hd : due = costF n * M) : (2 + due = 2 ↔ rowF (sz lb) k = mendedF lb ((weighedF (rowF (sz lb) k)).fmod ((lb.length : Int) + 1 + 1))) := by
  rcases hb.1 with e | e
  · have hM := hM.three e
    rw [show sz lb = 3 by unfold sz; rw [e]] at k8 ⊢
    rw [e]
    exact same3 hb e k0 k8 hM hd
  · have hM := hM.four e
    rw [show sz lb = 4 by unfold sz; rw [e]] at k8 ⊢
    rw [e]
    exact same4 hb e k0 k8 hM hd
end Mine

-- S3
open PySem PySem.W PyProof.Rows PyProof
set_option Elab.async false
set_option maxRecDepth 100000
set_option maxHeartbeats 8000000
set_option pp.deepTerms false
set_option pp.deepTerms.threshold 6
set_option rowWalk.seconds 0
namespace Mine

noncomputable def isCell (o : Obj) : Bool := match o.data with
  | .cell _ => true
  | _ => false
theorem cell_ne {o o' : Obj} {v : Option Value} (h : o.data = .cell v) (h' : isCell o' = false) : o ≠ o' := fun e => by
  subst e
  unfold isCell at h'
  rw [h] at h'
  cases h'
theorem ownOff_at {own : List (Addr × Obj)} {adr : List Addr} {p : Addr × Obj} {b : Addr} (h : OwnOff own adr) (hp : p ∈ own) (hb : b ∈ adr) : p.1 ≠ b := h p hp b hb
theorem data_ne {o o' : Obj} {v : Option Value} {ws : Array Value} (h : o.data = .cell v) (h' : o'.data = .fields ws) : o ≠ o' := fun e => by
  subst e
  rw [h] at h'
  cases h'
theorem addr_ne {l : List (Addr × Obj)} {R : Addr} (h : ∀ p ∈ l, p.1 ≠ R) : ∀ b ∈ l.map (·.1), b ≠ R := fun b hb => by
  obtain ⟨q, hq, e⟩ := List.mem_map.mp hb
  rw [← e]; exact h q hq
noncomputable abbrev gOf {n : Int} (_ : (lettersF n).length = 2) : Int → Str := fun k => Txt.item (lettersF n) k
local macro_rules | `(tactic| k_all) => `(tactic| first | exact List.forall_mem_nil _ | (refine' List.forall_mem_cons.mpr ⟨?kza, ?kzb⟩; (case kza => k_ne); (case kzb => k_all)) | exact fun p hp => ownOff_at (by assumption) hp (by k_mem))
local macro_rules | `(tactic| k_ne) => `(tactic| (refine neN ?_; (try dsimp only); first | omega | with_reducible assumption | (with_reducible exact Ne.symm (by assumption)) | exact News.neObj (by assumption) (by k_mem) (by k_mem) (cell_ne (by assumption) rfl) | exact News.neObj (by assumption) (by k_mem) (by k_mem) (Ne.symm (cell_ne (by assumption) rfl)) | exact News.neObj (by assumption) (by k_mem) (by k_mem) (data_ne (by assumption) (by assumption)) | exact News.neObj (by assumption) (by k_mem) (by k_mem) (Ne.symm (data_ne (by assumption) (by assumption))) | exact News.neObj (by assumption) (by k_mem) (by k_mem) (fun e => by cases e)))
theorem last_snoc (l : List Value) (y : Value) : kl_last (l ++ [y]) = some (l, y) := by
  induction l with
  | nil => rfl
  | cons a r ih => rw [List.cons_append, kl_last, ih]
theorem kst_end_o {h₀ : Heap} {x : Str} {Led : Obj → List (Addr × Obj)} {stored : List Str} {m₀ m' : Str → Option Value} {pre : List Int} {L : Addr} {own news' : List (Addr × Obj)} {adr : List Addr} {s₁ : Shared} {h' : Heap} {tk : Nat} {v : Option Value} (o : Obj) (hd : o.data = .cell v)
    (F : Fr h₀ L h' m') (N : News h₀ L h' news') (hn : ∀ p ∈ Led o, p ∈ news') (ho : ∀ p ∈ own, p ∈ news') (ha : (Led o).map (·.1) = adr) (hr : ∀ z, z ≠ x → stored.contains z = false → m' z = m₀ z) :
    InvEndN h₀ L (KstS Led (fun _ => []) (fun o => ∃ v, o.data = .cell v) x stored m₀ (fun _ _ => True) pre) own adr s₁ { s₁ with heap := h', toks := tk } :=
  kst_end o F N hn ho ha ⟨v, hd⟩ (List.forall_mem_nil _) (fun z h1 _ h3 => hr z h1 h3) True.intro
theorem neq_same {a : Int} {P : Prop} [Decidable P] (h : a = 2 ↔ P) : ((a == 2) != decide P) = false := by
  by_cases hp : P
  · have e := h.mpr hp
    subst e
    simp [hp]
  · have e : a ≠ 2 := fun e => hp (h.mp e)
    simp [hp, e]
theorem bits_bin {bs : List Int} (h : Bits bs) : Bin bs := h.2

theorem smallS {n : Nat} (h : n ≤ 16) : Builtin.Range.small 0 (n : Int) 1 = true := by
  have : ∀ x : Fin 17, Builtin.Range.small 0 ((x.val : Nat) : Int) 1 = true := by decide +kernel
  exact this ⟨n, by omega⟩
local macro_rules | `(tactic| walk_at "CompEnd") => `(tactic| (goal_has PySem.W.KCtEl; k_dflt (refine LCg.CompEnd.intro (by assumption) (by assumption) _ (fun _ h => h) (by assumption) (by first | lcg_src | assumption) ?_)))
local macro_rules | `(tactic| walk_at "CompSrc") => `(tactic| (k_here; (with_reducible show LCg.CompSrc _ _ _ _ _ _ _ (PySem.Expr.Subscript (PySem.Expr.Name (Str.ofString "letters") _) _ _) _ _ _ _ _ _); k_dflt (refine LCg.CompSrc.ledger (by rfl) (by k_asm) (by k_asm) (by k_mem) (by rw [List.size_toArray, PySem.sizeLine_eq]; omega) ?_; intro g'; (with_reducible rename (lettersF _).length = 2 => hll'); (refine' kct_list (gOf hll') (by assumption) (fun k' t' I' oI' C' oC' D' m' ys' h' tk' E' hk' hC' hx' F' N' off' ne' => ?_) ?_); (all_goals (try ((have hkb' := bin_bd (by assumption) hk'); (show KPfMark → _); intro hMark'))); kcf_last)))
local macro_rules | `(tactic| walk_at "call builtin:str.join") => `(tactic| (k_here; (with_reducible show wpAny _ _ (call (Value.builtin "str.join") [Value.str _ _, Value.ref _]) _ _ _); k_dflt ((with_reducible rename (@Ne Nat _ _ ∧ _) => o1x); clear o1x; (with_reducible rename CarriedAll _ (List.map _ _) => ktC); dsimp only [gOf] at ktC; refine KT.join_1 (by is_list) ktC (items_one (by assumption) (by assumption) (by assumption)) (by omega) ?_; intro t' k' ktE)))

noncomputable def lawAt (P : Params) : FuncData := match (hd2.heap_1 P).lookup 162 with
  | some ⟨_, _, .func fd, _⟩ => fd
  | _ => default
noncomputable def lawBody (P : Params) : List Stmt := fnAt P 162
noncomputable def lawScope (P : Params) : Scope := (lawAt P).scope
noncomputable abbrev lawEnv (P : Params) (L a : Addr) (ccd : Value) : Env := envOfC (Str.ofString "law") (lawScope P) L a ccd

theorem law2_loop {w : World} {p : Program} {loose : List Str} {mean : ExcName → Option Value} {mg mb : Str → Option Value} {a : Addr} {ccd : Value} {base g : Heap} {L : Addr} {s : Shared} {Q : Flow → Shared → Prop} {E : Value → Shared → Prop}
    {m₀ : Str → Option Value} {lb ds : List Int} {us : List Value} {D Dm : Addr} {c : Nat} {orow olet : Obj} {n : Int} {t1 tc ts th : Tok} {Ms : List Addr} {ks : List Nat} {uss : List (List Value)} {t ow : Led}
    (B' : Below callerA base [] g) (F' : Fr g L s.heap (kstB m₀ [(Str.ofString "cost", .int (costF n) tc), (Str.ofString "draws", .ref D), (Str.ofString "size", .int ((lb.length : Int) + 1) ts), (Str.ofString "heard", .str (wordF n lb) th), (Str.ofString "mended", .ref Dm)])) (X' : (hd2.heap_1 w.params).In g) (T' : Top p loose mean mg mb g)
    (hn0 : 0 ≤ n) (hn1 : n < 12)
    (N' : News g L s.heap ((Dm, LCg.lst (Ms.map Value.ref)) :: (D, listOf us.toArray c) :: (L + 1 + 1 + 1, orow) :: (L + 1 + 1, olet) :: ow))
    (hrow : orow.data = .cell none) (hlet : olet.data = .cell (some (.str (lettersF n) t1)))
    (hI : IntsAre us ds) (hdl : 1 < ds.length) (hdl3 : ds.length ≤ 3) (hbits : Bits lb)
    (hft : FilT w t) (ht : ∀ q ∈ t, q ∈ ow) (hrl : ∀ q ∈ rowsLed Ms ks uss, q ∈ ow) (hMl : Ms.length = lb.length + 2) (hkl : ks.length = lb.length + 2) (hul : uss.length = lb.length + 2)
    (hM : ∀ j, j < lb.length + 2 → IntsAre (uss.getD j []) (mendedF lb (j : Int))) (hsep : OwnOff ow [Dm, D, L + 1 + 1 + 1, L + 1 + 1])
    (hE : PassesOwn (model PySem.Challenge.rw_rs0157_02.prog w) (callerA.deeper (lawEnv w.params L a ccd)) (lawEnv w.params L a ccd) E)
    (hret : ∀ h' tk' m' nx, Fr g L h' m' → News g L h' nx → (∀ q ∈ t, q ∈ nx) → Q (.ret (.bool true)) { s with heap := h', toks := tk' }) :
    wpAny (model PySem.Challenge.rw_rs0157_02.prog w) (callerA.deeper (lawEnv w.params L a ccd)) (execs ((lawBody w.params).drop 9) (lawEnv w.params L a ccd)) Q E s := by
  revert X'
  k_fill
  intro X'
  revert hE
  k_with_none
  w_top off
  generalize hbody : (lawBody w.params).drop 9 = body
  unfold lawEnv
  generalize hscope : lawScope w.params = sc
  conv at hbody => lhs; whnf
  conv at hscope => lhs; whnf
  subst hbody hscope
  intro hE
  dsimp only [kstB] at F'
  (try dsimp only); (try k_fold)
  have hbin := bits_bin hbits
  have hll := letters_len hn0 hn1
  have hlen := hbits.1
  have hwl : (wordF n lb).length = lb.length := by rw [← tl_len, tl_word hn0 hn1 hbits.2]; unfold wordN; rw [List.length_map]
  obtain ⟨hp1, hp2, hp3⟩ := pow_sz hbits
  have hs1 : Builtin.Int.intBits ((lb.length : Int) + 1) ≤ 64 := (intBits_le_iff (m := 64)).mpr (by omega)
  refine wpAny_execs_cons ?_
  rename Fr g L _ _ => FF
  with_unfolding_all refine' For_invVF FF ?k1 ?k2 ?_ (hE := hE)
  case k1 => exact rfl
  case k2 => exact rfl
  (repeat' ((fail_if_success (with_reducible show wpAny _ _ (pyIter _) _ _ _)); first | (k_unfold; (try dsimp only)) | walk1 | (dsimp only; walk1) | (leave1; try dsimp only)))
  rename Fr g L _ _ => FF
  rename News g L _ _ => NN
  rename IsRange _ _ _ _ _ _ _ _ => hR
  rw [hp1] at hR
  refine kst_range (σ := Obj) (n := 2 ^ sz lb) (fun o => (Dm, LCg.lst (Ms.map Value.ref)) :: (D, W.listOf us.toArray c) :: (L + 1 + 1 + 1, o) :: (L + 1 + 1, olet) :: ow) (fun _ => []) (fun o => ∃ v, o.data = .cell v) [Str.ofString "word", Str.ofString "check", Str.ofString "mark", Str.ofString "told", Str.ofString "due", Str.ofString "bound", Str.ofString "pair"] (fun _ _ => True) orow rfl hR (smallS hp3) (by rw [rangeSize_nat]; omega) FF NN ⟨_, hrow⟩ (List.forall_mem_nil _) True.intro ?_ ?_
  · clear FF NN hR hrow
    intro orow k0' k tn u h tk own hk hlt hoff hrow _ F N
    obtain ⟨vr, hrow⟩ := hrow
    have kMark := kstMark
    have hsz : sz lb = lb.length + 1 := rfl
    have kk0 : 0 ≤ k := by omega
    have kk8 : k < (2 ^ sz lb : Nat) := by omega
    dsimp only [kstB] at F
    simp only [List.cons_append] at N
    change Fr g L _ _ at F
    change News g L _ _ at N
    have hq : OwnOff (ow ++ own) [Dm, D, L + 1 + 1 + 1, L + 1 + 1] := fun q hq => by
      rcases List.mem_append.mp hq with hq | hq
      · exact hsep q hq
      · intro b hb
        refine hoff q hq b ?_
        simp only [List.mem_cons, List.mem_nil_iff, or_false] at hb
        rcases hb with rfl | rfl | rfl | rfl <;> simp
    have htq : ∀ q ∈ t, q ∈ ow ++ own := fun q hq => List.mem_append_left _ (ht q hq)
    have hrq : ∀ q ∈ rowsLed Ms ks uss, q ∈ ow ++ own := fun q hq => List.mem_append_left _ (hrl q hq)
    obtain ⟨o9, ho9⟩ : ∃ o9, o9 = ow ++ own := ⟨_, rfl⟩
    rw [← ho9] at N hq htq hrq
    (try dsimp only); (try k_fold)
    (repeat' ((fail_if_success (with_reducible show InvEndN _ _ _ _ _ _ _)); (fail_if_success (with_reducible show LCg.CompSrc _ _ _ _ _ _ _ (PySem.Expr.Call _ _ _ _) _ _ _ _ _ _)); (fail_if_success (with_reducible show wpAny _ _ (PySem.call (Value.ref 49) _) _ _ _)); (fail_if_success (with_reducible show wpAny _ _ (PySem.call (Value.ref 138) _) _ _ _)); (fail_if_success (with_reducible show wpAny _ _ (PySem.call (Value.ref 70) _) _ _ _)); (fail_if_success (with_reducible show wpAny _ _ (PySem.call (Value.ref 114) _) _ _ _)); (fail_if_success (with_reducible show wpAny _ _ (PySem.call (Value.ref 157) _) _ _ _)); (fail_if_success (with_reducible show wpAny _ _ (PySem.call (Value.ref 28) _) _ _ _)); (fail_if_success (with_reducible show wpAny _ _ (PySem.call (Value.ref 152) _) _ _ _)); (fail_if_success (with_reducible show wpAny _ _ (PySem.call (Value.ref 121) _) _ _ _)); (fail_if_success (with_reducible show wpAny _ _ (PySem.call (Value.ref 145) _) _ _ _)); (fail_if_success (with_reducible show wpAny _ _ (PySem.call (Value.builtin "list.pop") _) _ _ _)); (fail_if_success (with_reducible show wpAny _ _ (compareOp CmpOp.NotEq (Value.ref _) (Value.ref _)) _ _ _)); (fail_if_success (with_reducible show wpAny _ _ (compareOp CmpOp.Eq (Value.ref _) (Value.ref _)) _ _ _)); (fail_if_success (with_reducible show wpAny _ _ (subscriptTail (PySem.Expr.Name (Str.ofString "mended") _) _ _ _) _ _ _)); first | (k_unfold; (try dsimp only)) | walk1 | (dsimp only; walk1) | (leave1; try dsimp only)))
    rename Fr g _ _ _ => FF
    rename News g _ _ _ => NN
    rw [hp1]
    refine Pure.call (i2dF_ok _ 1 _ _) B' FF X' T' NN rfl (by show _ < _; decide) (by show _ < _; decide) ⟨by omega, by omega, by decide, by decide, filled1_of hft NN fun q hq => (by repeat (first | exact htq q hq | refine List.Mem.tail _ ?_))⟩ ?_
    rintro v h2 tk2 st2 ⟨R, o, rfl, hR0, hR1, ur, kr, rfl, hur⟩ F2 N2
    obtain ⟨rw1, rw2, rw3, rw4, rw5⟩ := rowS hbits kk0 kk8
    rw [rw1] at hur
    obtain ⟨ur, tr, rfl, hus⟩ := ints_snoc hur
    clear hur
    have hul : ur.length = sz lb := hus.length.trans rw2
    have N3 := News.addD FF N2 hR0 hR1
    have hRne := News.neN NN hR0
    clear N2 st2 hR0 hR1 NN FF
    have hRa := addr_ne hRne
    clear hRne
    (repeat' ((fail_if_success (with_reducible show InvEndN _ _ _ _ _ _ _)); (fail_if_success (with_reducible show LCg.CompSrc _ _ _ _ _ _ _ (PySem.Expr.Call _ _ _ _) _ _ _ _ _ _)); (fail_if_success (with_reducible show wpAny _ _ (PySem.call (Value.ref 49) _) _ _ _)); (fail_if_success (with_reducible show wpAny _ _ (PySem.call (Value.ref 138) _) _ _ _)); (fail_if_success (with_reducible show wpAny _ _ (PySem.call (Value.ref 70) _) _ _ _)); (fail_if_success (with_reducible show wpAny _ _ (PySem.call (Value.ref 114) _) _ _ _)); (fail_if_success (with_reducible show wpAny _ _ (PySem.call (Value.ref 157) _) _ _ _)); (fail_if_success (with_reducible show wpAny _ _ (PySem.call (Value.ref 28) _) _ _ _)); (fail_if_success (with_reducible show wpAny _ _ (PySem.call (Value.ref 152) _) _ _ _)); (fail_if_success (with_reducible show wpAny _ _ (PySem.call (Value.ref 121) _) _ _ _)); (fail_if_success (with_reducible show wpAny _ _ (PySem.call (Value.ref 145) _) _ _ _)); (fail_if_success (with_reducible show wpAny _ _ (PySem.call (Value.builtin "list.pop") _) _ _ _)); (fail_if_success (with_reducible show wpAny _ _ (compareOp CmpOp.NotEq (Value.ref _) (Value.ref _)) _ _ _)); (fail_if_success (with_reducible show wpAny _ _ (compareOp CmpOp.Eq (Value.ref _) (Value.ref _)) _ _ _)); (fail_if_success (with_reducible show wpAny _ _ (subscriptTail (PySem.Expr.Name (Str.ofString "mended") _) _ _ _) _ _ _)); first | (k_unfold; (try dsimp only)) | walk1 | (dsimp only; walk1) | (leave1; try dsimp only)))
    rename Fr g _ _ _ => FF
    rename News g _ _ _ => NN
    refine kl_pop (p := ur) (y := .int 1 tr) FF NN (by rw [List.toList_toArray]; exact last_snoc _ _) (Upd.head fun p hp => hRa p.1 (List.mem_map_of_mem (f := fun x => x.1) hp)) (by rw [List.toList_toArray, List.length_append, hul, List.length_singleton, PySem.sizeLine_eq]; omega) ?_
    intro h' F' N'
    (repeat' ((fail_if_success (with_reducible show InvEndN _ _ _ _ _ _ _)); (fail_if_success (with_reducible show LCg.CompSrc _ _ _ _ _ _ _ (PySem.Expr.Call _ _ _ _) _ _ _ _ _ _)); (fail_if_success (with_reducible show wpAny _ _ (PySem.call (Value.ref 49) _) _ _ _)); (fail_if_success (with_reducible show wpAny _ _ (PySem.call (Value.ref 138) _) _ _ _)); (fail_if_success (with_reducible show wpAny _ _ (PySem.call (Value.ref 70) _) _ _ _)); (fail_if_success (with_reducible show wpAny _ _ (PySem.call (Value.ref 114) _) _ _ _)); (fail_if_success (with_reducible show wpAny _ _ (PySem.call (Value.ref 157) _) _ _ _)); (fail_if_success (with_reducible show wpAny _ _ (PySem.call (Value.ref 28) _) _ _ _)); (fail_if_success (with_reducible show wpAny _ _ (PySem.call (Value.ref 152) _) _ _ _)); (fail_if_success (with_reducible show wpAny _ _ (PySem.call (Value.ref 121) _) _ _ _)); (fail_if_success (with_reducible show wpAny _ _ (PySem.call (Value.ref 145) _) _ _ _)); (fail_if_success (with_reducible show wpAny _ _ (PySem.call (Value.builtin "list.pop") _) _ _ _)); (fail_if_success (with_reducible show wpAny _ _ (compareOp CmpOp.NotEq (Value.ref _) (Value.ref _)) _ _ _)); (fail_if_success (with_reducible show wpAny _ _ (compareOp CmpOp.Eq (Value.ref _) (Value.ref _)) _ _ _)); (fail_if_success (with_reducible show wpAny _ _ (subscriptTail (PySem.Expr.Name (Str.ofString "mended") _) _ _ _) _ _ _)); first | (k_unfold; (try dsimp only)) | walk1 | (dsimp only; walk1) | (leave1; try dsimp only)))
    · exfalso; omega
    rename Fr g L _ _ => FF
    rename News g L _ _ => NN
    rename IntsAre ur _ => hus
    refine Pure.call (weighed_ok R ur (rowF (sz lb) k)) B' FF X' T' NN rfl (by show _ < _; decide) (by show _ < _; decide) ⟨⟨_, (NN (R, _) (by k_mem)).1, rfl, _, rfl⟩, hus, by omega⟩ ?_
    rintro v h4 tk4 st4 ⟨t4, rfl⟩ F4 N4
    clear st4 FF NN
    (repeat' ((fail_if_success (with_reducible show InvEndN _ _ _ _ _ _ _)); (fail_if_success (with_reducible show LCg.CompSrc _ _ _ _ _ _ _ (PySem.Expr.Call _ _ _ _) _ _ _ _ _ _)); (fail_if_success (with_reducible show wpAny _ _ (PySem.call (Value.ref 49) _) _ _ _)); (fail_if_success (with_reducible show wpAny _ _ (PySem.call (Value.ref 138) _) _ _ _)); (fail_if_success (with_reducible show wpAny _ _ (PySem.call (Value.ref 70) _) _ _ _)); (fail_if_success (with_reducible show wpAny _ _ (PySem.call (Value.ref 114) _) _ _ _)); (fail_if_success (with_reducible show wpAny _ _ (PySem.call (Value.ref 157) _) _ _ _)); (fail_if_success (with_reducible show wpAny _ _ (PySem.call (Value.ref 28) _) _ _ _)); (fail_if_success (with_reducible show wpAny _ _ (PySem.call (Value.ref 152) _) _ _ _)); (fail_if_success (with_reducible show wpAny _ _ (PySem.call (Value.ref 121) _) _ _ _)); (fail_if_success (with_reducible show wpAny _ _ (PySem.call (Value.ref 145) _) _ _ _)); (fail_if_success (with_reducible show wpAny _ _ (PySem.call (Value.builtin "list.pop") _) _ _ _)); (fail_if_success (with_reducible show wpAny _ _ (compareOp CmpOp.NotEq (Value.ref _) (Value.ref _)) _ _ _)); (fail_if_success (with_reducible show wpAny _ _ (compareOp CmpOp.Eq (Value.ref _) (Value.ref _)) _ _ _)); (fail_if_success (with_reducible show wpAny _ _ (subscriptTail (PySem.Expr.Name (Str.ofString "mended") _) _ _ _) _ _ _)); first | (k_unfold; (try dsimp only)) | walk1 | (dsimp only; walk1) | (leave1; try dsimp only)))
    rename Fr g L _ _ => FF
    rename News g L _ _ => NN
    refine PureE.callF (idm2U_ok _ _ _ _ t hft.on) hft B' FF X' T' NN rfl (by show _ < _; decide) (by show _ < _; decide) (fun q hq => (by repeat (first | exact htq q hq | refine List.Mem.tail _ ?_))) ⟨by omega, by omega, by omega, by omega⟩ ?_
    rintro v h5 tk5 st5 ⟨Q1, o, rfl, hQ0, hQ1, tq1, tq2, rfl⟩ F5 N5
    have hckb := fmod_bd (weighedF (rowF (sz lb) k)) (b := (lb.length : Int) + 1 + 1) (by omega) (by omega)
    have hckl := Int.fmod_lt_of_pos (weighedF (rowF (sz lb) k)) (b := (lb.length : Int) + 1 + 1) (by omega)
    obtain ⟨ck, hck⟩ : ∃ ck, ck = (weighedF (rowF (sz lb) k)).fmod ((lb.length : Int) + 1 + 1) := ⟨_, rfl⟩
    rw [← hck] at hQ1 hckb hckl
    have N6 := News.addD FF N5 hQ0 hQ1
    clear N5 st5 hQ0 hQ1 NN FF
    (repeat' ((fail_if_success (with_reducible show InvEndN _ _ _ _ _ _ _)); (fail_if_success (with_reducible show LCg.CompSrc _ _ _ _ _ _ _ (PySem.Expr.Call _ _ _ _) _ _ _ _ _ _)); (fail_if_success (with_reducible show wpAny _ _ (PySem.call (Value.ref 49) _) _ _ _)); (fail_if_success (with_reducible show wpAny _ _ (PySem.call (Value.ref 138) _) _ _ _)); (fail_if_success (with_reducible show wpAny _ _ (PySem.call (Value.ref 70) _) _ _ _)); (fail_if_success (with_reducible show wpAny _ _ (PySem.call (Value.ref 114) _) _ _ _)); (fail_if_success (with_reducible show wpAny _ _ (PySem.call (Value.ref 157) _) _ _ _)); (fail_if_success (with_reducible show wpAny _ _ (PySem.call (Value.ref 28) _) _ _ _)); (fail_if_success (with_reducible show wpAny _ _ (PySem.call (Value.ref 152) _) _ _ _)); (fail_if_success (with_reducible show wpAny _ _ (PySem.call (Value.ref 121) _) _ _ _)); (fail_if_success (with_reducible show wpAny _ _ (PySem.call (Value.ref 145) _) _ _ _)); (fail_if_success (with_reducible show wpAny _ _ (PySem.call (Value.builtin "list.pop") _) _ _ _)); (fail_if_success (with_reducible show wpAny _ _ (compareOp CmpOp.NotEq (Value.ref _) (Value.ref _)) _ _ _)); (fail_if_success (with_reducible show wpAny _ _ (compareOp CmpOp.Eq (Value.ref _) (Value.ref _)) _ _ _)); (fail_if_success (with_reducible show wpAny _ _ (subscriptTail (PySem.Expr.Name (Str.ofString "mended") _) _ _ _) _ _ _)); first | (k_unfold; (try dsimp only)) | walk1 | (dsimp only; walk1) | (leave1; try dsimp only)))
    rename Fr g L _ _ => FF
    rename News g L _ _ => NN
    refine Pure.call (reply_ok _ _) B' FF X' T' NN rfl (by show _ < _; decide) (by show _ < _; decide) (by (try simp only [Str.length_append]); omega) ?_
    rintro v h7 tk7 st7 ⟨t7, rfl⟩ F7 N7
    clear st7 FF NN
    (repeat' ((fail_if_success (with_reducible show InvEndN _ _ _ _ _ _ _)); (fail_if_success (with_reducible show LCg.CompSrc _ _ _ _ _ _ _ (PySem.Expr.Call _ _ _ _) _ _ _ _ _ _)); (fail_if_success (with_reducible show wpAny _ _ (PySem.call (Value.ref 49) _) _ _ _)); (fail_if_success (with_reducible show wpAny _ _ (PySem.call (Value.ref 138) _) _ _ _)); (fail_if_success (with_reducible show wpAny _ _ (PySem.call (Value.ref 70) _) _ _ _)); (fail_if_success (with_reducible show wpAny _ _ (PySem.call (Value.ref 114) _) _ _ _)); (fail_if_success (with_reducible show wpAny _ _ (PySem.call (Value.ref 157) _) _ _ _)); (fail_if_success (with_reducible show wpAny _ _ (PySem.call (Value.ref 28) _) _ _ _)); (fail_if_success (with_reducible show wpAny _ _ (PySem.call (Value.ref 152) _) _ _ _)); (fail_if_success (with_reducible show wpAny _ _ (PySem.call (Value.ref 121) _) _ _ _)); (fail_if_success (with_reducible show wpAny _ _ (PySem.call (Value.ref 145) _) _ _ _)); (fail_if_success (with_reducible show wpAny _ _ (PySem.call (Value.builtin "list.pop") _) _ _ _)); (fail_if_success (with_reducible show wpAny _ _ (compareOp CmpOp.NotEq (Value.ref _) (Value.ref _)) _ _ _)); (fail_if_success (with_reducible show wpAny _ _ (compareOp CmpOp.Eq (Value.ref _) (Value.ref _)) _ _ _)); (fail_if_success (with_reducible show wpAny _ _ (subscriptTail (PySem.Expr.Name (Str.ofString "mended") _) _ _ _) _ _ _)); first | (k_unfold; (try dsimp only)) | walk1 | (dsimp only; walk1) | (leave1; try dsimp only)))
    rename Fr g L _ _ => FF
    rename News g L _ _ => NN
    refine Pure.call (p257r_ok _ _) B' FF X' T' NN rfl (by show _ < _; decide) (by show _ < _; decide) (by omega) ?_
    rintro v h8 tk8 st8 ⟨t8, rfl⟩ F8 N8
    clear st8 FF NN
    (repeat' ((fail_if_success (with_reducible show InvEndN _ _ _ _ _ _ _)); (fail_if_success (with_reducible show LCg.CompSrc _ _ _ _ _ _ _ (PySem.Expr.Call _ _ _ _) _ _ _ _ _ _)); (fail_if_success (with_reducible show wpAny _ _ (PySem.call (Value.ref 49) _) _ _ _)); (fail_if_success (with_reducible show wpAny _ _ (PySem.call (Value.ref 138) _) _ _ _)); (fail_if_success (with_reducible show wpAny _ _ (PySem.call (Value.ref 70) _) _ _ _)); (fail_if_success (with_reducible show wpAny _ _ (PySem.call (Value.ref 114) _) _ _ _)); (fail_if_success (with_reducible show wpAny _ _ (PySem.call (Value.ref 157) _) _ _ _)); (fail_if_success (with_reducible show wpAny _ _ (PySem.call (Value.ref 28) _) _ _ _)); (fail_if_success (with_reducible show wpAny _ _ (PySem.call (Value.ref 152) _) _ _ _)); (fail_if_success (with_reducible show wpAny _ _ (PySem.call (Value.ref 121) _) _ _ _)); (fail_if_success (with_reducible show wpAny _ _ (PySem.call (Value.ref 145) _) _ _ _)); (fail_if_success (with_reducible show wpAny _ _ (PySem.call (Value.builtin "list.pop") _) _ _ _)); (fail_if_success (with_reducible show wpAny _ _ (compareOp CmpOp.NotEq (Value.ref _) (Value.ref _)) _ _ _)); (fail_if_success (with_reducible show wpAny _ _ (compareOp CmpOp.Eq (Value.ref _) (Value.ref _)) _ _ _)); (fail_if_success (with_reducible show wpAny _ _ (subscriptTail (PySem.Expr.Name (Str.ofString "mended") _) _ _ _) _ _ _)); first | (k_unfold; (try dsimp only)) | walk1 | (dsimp only; walk1) | (leave1; try dsimp only)))
    rename Fr g L _ _ => FF
    rename News g L _ _ => NN
    refine Pure.call (p229_ok (rep229 n ck) _ _ _ _ _ ck) B' FF X' T' NN rfl (by show _ < _; decide) (by show _ < _; decide) ⟨News.isTup NN (List.Mem.head _), good229 hn0 hn1 hckb⟩ ?_
    rintro v h7 tk7 st7 ⟨T1, o, rfl, hT0, hT1, tt1, tt2, rfl⟩ F7 N7
    have N8 := News.addD FF N7 hT0 hT1
    clear N7 st7 hT0 hT1 NN FF
    (repeat' ((fail_if_success (with_reducible show InvEndN _ _ _ _ _ _ _)); (fail_if_success (with_reducible show LCg.CompSrc _ _ _ _ _ _ _ (PySem.Expr.Call _ _ _ _) _ _ _ _ _ _)); (fail_if_success (with_reducible show wpAny _ _ (PySem.call (Value.ref 49) _) _ _ _)); (fail_if_success (with_reducible show wpAny _ _ (PySem.call (Value.ref 138) _) _ _ _)); (fail_if_success (with_reducible show wpAny _ _ (PySem.call (Value.ref 70) _) _ _ _)); (fail_if_success (with_reducible show wpAny _ _ (PySem.call (Value.ref 114) _) _ _ _)); (fail_if_success (with_reducible show wpAny _ _ (PySem.call (Value.ref 157) _) _ _ _)); (fail_if_success (with_reducible show wpAny _ _ (PySem.call (Value.ref 28) _) _ _ _)); (fail_if_success (with_reducible show wpAny _ _ (PySem.call (Value.ref 152) _) _ _ _)); (fail_if_success (with_reducible show wpAny _ _ (PySem.call (Value.ref 121) _) _ _ _)); (fail_if_success (with_reducible show wpAny _ _ (PySem.call (Value.ref 145) _) _ _ _)); (fail_if_success (with_reducible show wpAny _ _ (PySem.call (Value.builtin "list.pop") _) _ _ _)); (fail_if_success (with_reducible show wpAny _ _ (compareOp CmpOp.NotEq (Value.ref _) (Value.ref _)) _ _ _)); (fail_if_success (with_reducible show wpAny _ _ (compareOp CmpOp.Eq (Value.ref _) (Value.ref _)) _ _ _)); (fail_if_success (with_reducible show wpAny _ _ (subscriptTail (PySem.Expr.Name (Str.ofString "mended") _) _ _ _) _ _ _)); first | (k_unfold; (try dsimp only)) | walk1 | (dsimp only; walk1) | (leave1; try dsimp only)))
    rename Fr g L _ _ => FF
    rename News g L _ _ => NN
    refine tup_ne_same NN (by k_mem) (List.Mem.head _) (wordOkS hbits hn0 hn1 kk0 kk8) (by ke_room) ?_
    (repeat' ((fail_if_success (with_reducible show InvEndN _ _ _ _ _ _ _)); (fail_if_success (with_reducible show LCg.CompSrc _ _ _ _ _ _ _ (PySem.Expr.Call _ _ _ _) _ _ _ _ _ _)); (fail_if_success (with_reducible show wpAny _ _ (PySem.call (Value.ref 49) _) _ _ _)); (fail_if_success (with_reducible show wpAny _ _ (PySem.call (Value.ref 138) _) _ _ _)); (fail_if_success (with_reducible show wpAny _ _ (PySem.call (Value.ref 70) _) _ _ _)); (fail_if_success (with_reducible show wpAny _ _ (PySem.call (Value.ref 114) _) _ _ _)); (fail_if_success (with_reducible show wpAny _ _ (PySem.call (Value.ref 157) _) _ _ _)); (fail_if_success (with_reducible show wpAny _ _ (PySem.call (Value.ref 28) _) _ _ _)); (fail_if_success (with_reducible show wpAny _ _ (PySem.call (Value.ref 152) _) _ _ _)); (fail_if_success (with_reducible show wpAny _ _ (PySem.call (Value.ref 121) _) _ _ _)); (fail_if_success (with_reducible show wpAny _ _ (PySem.call (Value.ref 145) _) _ _ _)); (fail_if_success (with_reducible show wpAny _ _ (PySem.call (Value.builtin "list.pop") _) _ _ _)); (fail_if_success (with_reducible show wpAny _ _ (compareOp CmpOp.NotEq (Value.ref _) (Value.ref _)) _ _ _)); (fail_if_success (with_reducible show wpAny _ _ (compareOp CmpOp.Eq (Value.ref _) (Value.ref _)) _ _ _)); (fail_if_success (with_reducible show wpAny _ _ (subscriptTail (PySem.Expr.Name (Str.ofString "mended") _) _ _ _) _ _ _)); first | (k_unfold; (try dsimp only)) | walk1 | (dsimp only; walk1) | (leave1; try dsimp only)))
    refine LCg.CompSrc.ledger (by rfl) (by k_asm) (by k_asm) (by k_mem) (by rw [List.size_toArray, List.length_map, hMl, PySem.sizeLine_eq]; omega) ?_
    intro g''
    rename Fr g L _ _ => FF
    rename News g L _ _ => NN
    clear FF NN
    refine comp_ind (fun i ys nw => nw = _ ∧ IntsAre ys ((List.range i).map fun (j : Nat) => missesF (rowF (sz lb) k) (mendedF lb (j : Int)))) (Ms.map Value.ref).toArray.size ?_ ?_ _ 0 [] _ (Nat.zero_add _) ⟨rfl, .nil⟩
    · rintro i ys nw hi ⟨rfl, hys⟩ v I oI C oC Dq mq h tk E9 hv hC hx F N off ne
      have hi' : i < lb.length + 2 := by rw [List.size_toArray, List.length_map, hMl] at hi; exact hi
      obtain rfl : v = .ref (Ms.getD i 0) := by
        simp [List.getD_eq_getElem?_getD] at hv ⊢
        obtain ⟨z, hz, rfl⟩ := hv
        rw [hz]; rfl
      (repeat' ((fail_if_success (with_reducible show InvEndN _ _ _ _ _ _ _)); (fail_if_success (with_reducible show LCg.CompSrc _ _ _ _ _ _ _ (PySem.Expr.Call _ _ _ _) _ _ _ _ _ _)); (fail_if_success (with_reducible show wpAny _ _ (PySem.call (Value.ref 49) _) _ _ _)); (fail_if_success (with_reducible show wpAny _ _ (PySem.call (Value.ref 138) _) _ _ _)); (fail_if_success (with_reducible show wpAny _ _ (PySem.call (Value.ref 70) _) _ _ _)); (fail_if_success (with_reducible show wpAny _ _ (PySem.call (Value.ref 114) _) _ _ _)); (fail_if_success (with_reducible show wpAny _ _ (PySem.call (Value.ref 157) _) _ _ _)); (fail_if_success (with_reducible show wpAny _ _ (PySem.call (Value.ref 28) _) _ _ _)); (fail_if_success (with_reducible show wpAny _ _ (PySem.call (Value.ref 152) _) _ _ _)); (fail_if_success (with_reducible show wpAny _ _ (PySem.call (Value.ref 121) _) _ _ _)); (fail_if_success (with_reducible show wpAny _ _ (PySem.call (Value.ref 145) _) _ _ _)); (fail_if_success (with_reducible show wpAny _ _ (PySem.call (Value.builtin "list.pop") _) _ _ _)); (fail_if_success (with_reducible show wpAny _ _ (compareOp CmpOp.NotEq (Value.ref _) (Value.ref _)) _ _ _)); (fail_if_success (with_reducible show wpAny _ _ (compareOp CmpOp.Eq (Value.ref _) (Value.ref _)) _ _ _)); (fail_if_success (with_reducible show wpAny _ _ (subscriptTail (PySem.Expr.Name (Str.ofString "mended") _) _ _ _) _ _ _)); first | (k_unfold; (try dsimp only)) | walk1 | (dsimp only; walk1) | (leave1; try dsimp only)))
      rename Fr g L _ _ => FF
      rename News g L _ _ => NN
      have hmi := rowsLed_mem (Rs := Ms) (ks := ks) (us := uss) (i := i) (by omega) (by omega) (by omega)
      have hMi := NN (Ms.getD i 0, listOf (uss.getD i []).toArray (ks.getD i 0)) (by repeat (first | exact hrq _ hmi | refine List.Mem.tail _ ?_))
      have hml := mended_len (c := (i : Int)) hbits (by omega) (by omega)
      refine Pure.call (misses_ok R (Ms.getD i 0) ur (uss.getD i []) (rowF (sz lb) k) (mendedF lb (i : Int))) B' FF X' T' NN rfl (by show _ < _; decide) (by show _ < _; decide) ⟨⟨_, (NN (R, _) (by k_mem)).1, rfl, _, rfl⟩, hus, ⟨_, hMi.1, rfl, _, rfl⟩, hM i hi', by omega, by omega⟩ ?_
      rintro v h4 tk4 st4 ⟨t4, rfl⟩ F4 N4
      refine LCg.CompEnd.intro F4 N4 _ (fun _ h => h) off (by lcg_src) ⟨rfl, ?_⟩
      rw [List.range_succ, List.map_append]
      exact IntsAre.append hys (IntsAre.cons _ _ IntsAre.nil)
    · rintro ys nw ⟨rfl, hys⟩
      have hys : IntsAre ys (missL lb k) := by
        rw [List.size_toArray, List.length_map, hMl] at hys
        exact hys
      have hyl := hys.length
      have hml : (missL lb k).length = lb.length + 2 := by unfold missL; rw [List.length_map, List.length_range]
      intro Dz h tk F N off
      clear off
      (repeat' ((fail_if_success (with_reducible show InvEndN _ _ _ _ _ _ _)); (fail_if_success (with_reducible show LCg.CompSrc _ _ _ _ _ _ _ (PySem.Expr.Call _ _ _ _) _ _ _ _ _ _)); (fail_if_success (with_reducible show wpAny _ _ (PySem.call (Value.ref 49) _) _ _ _)); (fail_if_success (with_reducible show wpAny _ _ (PySem.call (Value.ref 138) _) _ _ _)); (fail_if_success (with_reducible show wpAny _ _ (PySem.call (Value.ref 70) _) _ _ _)); (fail_if_success (with_reducible show wpAny _ _ (PySem.call (Value.ref 114) _) _ _ _)); (fail_if_success (with_reducible show wpAny _ _ (PySem.call (Value.ref 157) _) _ _ _)); (fail_if_success (with_reducible show wpAny _ _ (PySem.call (Value.ref 28) _) _ _ _)); (fail_if_success (with_reducible show wpAny _ _ (PySem.call (Value.ref 152) _) _ _ _)); (fail_if_success (with_reducible show wpAny _ _ (PySem.call (Value.ref 121) _) _ _ _)); (fail_if_success (with_reducible show wpAny _ _ (PySem.call (Value.ref 145) _) _ _ _)); (fail_if_success (with_reducible show wpAny _ _ (PySem.call (Value.builtin "list.pop") _) _ _ _)); (fail_if_success (with_reducible show wpAny _ _ (compareOp CmpOp.NotEq (Value.ref _) (Value.ref _)) _ _ _)); (fail_if_success (with_reducible show wpAny _ _ (compareOp CmpOp.Eq (Value.ref _) (Value.ref _)) _ _ _)); (fail_if_success (with_reducible show wpAny _ _ (subscriptTail (PySem.Expr.Name (Str.ofString "mended") _) _ _ _) _ _ _)); first | (k_unfold; (try dsimp only)) | walk1 | (dsimp only; walk1) | (leave1; try dsimp only)))
      rename_i Mn tMn kMn FMn NMn hMa hMb
      have hleast : LeastS lb k Mn := ⟨hMa, hMb⟩
      have hMbd := hleast.bd hbits kk0 kk8
      have hcb := cost_bd n
      obtain ⟨due, hdue⟩ : ∃ due, due = costF n * Mn := ⟨_, rfl⟩
      refine mul_int ?_ (IntMulOk.of_left ((intBits_le_iff (m := 64)).mpr (by rcases hcb with e | e <;> rw [e] <;> decide)))
      rw [← hdue]
      have hdb : 0 ≤ due ∧ due ≤ 8 := by rcases hcb with e | e <;> rw [e] at hdue <;> omega
      have hr3 : 0 ≤ ((ds.getD 1 0).fdiv 2 + k).fmod 3 ∧ ((ds.getD 1 0).fdiv 2 + k).fmod 3 < 3 := ⟨Int.fmod_nonneg_of_pos _ (by decide), Int.fmod_lt_of_pos _ (by decide)⟩
      have hlev := lev_dueS hn0 hn1 hbits kk0 kk8 hleast hdue hr3
      have hsame := sameS hbits kk0 kk8 hleast hdue
      rw [← hck] at hsame
      clear hMa hMb hleast hys hyl hml
      rename Obj.data _ = Data.cell (some (Value.ref R)) => hrow2
      (repeat' ((fail_if_success (with_reducible show InvEndN _ _ _ _ _ _ _)); (fail_if_success (with_reducible show LCg.CompSrc _ _ _ _ _ _ _ (PySem.Expr.Call _ _ _ _) _ _ _ _ _ _)); (fail_if_success (with_reducible show wpAny _ _ (PySem.call (Value.ref 49) _) _ _ _)); (fail_if_success (with_reducible show wpAny _ _ (PySem.call (Value.ref 138) _) _ _ _)); (fail_if_success (with_reducible show wpAny _ _ (PySem.call (Value.ref 70) _) _ _ _)); (fail_if_success (with_reducible show wpAny _ _ (PySem.call (Value.ref 114) _) _ _ _)); (fail_if_success (with_reducible show wpAny _ _ (PySem.call (Value.ref 157) _) _ _ _)); (fail_if_success (with_reducible show wpAny _ _ (PySem.call (Value.ref 28) _) _ _ _)); (fail_if_success (with_reducible show wpAny _ _ (PySem.call (Value.ref 152) _) _ _ _)); (fail_if_success (with_reducible show wpAny _ _ (PySem.call (Value.ref 121) _) _ _ _)); (fail_if_success (with_reducible show wpAny _ _ (PySem.call (Value.ref 145) _) _ _ _)); (fail_if_success (with_reducible show wpAny _ _ (PySem.call (Value.builtin "list.pop") _) _ _ _)); (fail_if_success (with_reducible show wpAny _ _ (compareOp CmpOp.NotEq (Value.ref _) (Value.ref _)) _ _ _)); (fail_if_success (with_reducible show wpAny _ _ (compareOp CmpOp.Eq (Value.ref _) (Value.ref _)) _ _ _)); (fail_if_success (with_reducible show wpAny _ _ (subscriptTail (PySem.Expr.Name (Str.ofString "mended") _) _ _ _) _ _ _)); first | (k_unfold; (try dsimp only)) | walk1 | (dsimp only; walk1) | (leave1; try dsimp only)))
      · rename Fr g L _ _ => FF
        rename News g L _ _ => NN
        refine Pure.call (levV_ok _ _ _ (2 + due) _ _ _) B' FF X' T' NN rfl (by show _ < _; decide) (by show _ < _; decide) ⟨by omega, by omega, hlev.1⟩ ?_
        rintro v h4 tk4 st4 ⟨t4, rfl⟩ F4 N4
        clear st4 FF NN
        (repeat' ((fail_if_success (with_reducible show InvEndN _ _ _ _ _ _ _)); (fail_if_success (with_reducible show LCg.CompSrc _ _ _ _ _ _ _ (PySem.Expr.Call _ _ _ _) _ _ _ _ _ _)); (fail_if_success (with_reducible show wpAny _ _ (PySem.call (Value.ref 49) _) _ _ _)); (fail_if_success (with_reducible show wpAny _ _ (PySem.call (Value.ref 138) _) _ _ _)); (fail_if_success (with_reducible show wpAny _ _ (PySem.call (Value.ref 70) _) _ _ _)); (fail_if_success (with_reducible show wpAny _ _ (PySem.call (Value.ref 114) _) _ _ _)); (fail_if_success (with_reducible show wpAny _ _ (PySem.call (Value.ref 157) _) _ _ _)); (fail_if_success (with_reducible show wpAny _ _ (PySem.call (Value.ref 28) _) _ _ _)); (fail_if_success (with_reducible show wpAny _ _ (PySem.call (Value.ref 152) _) _ _ _)); (fail_if_success (with_reducible show wpAny _ _ (PySem.call (Value.ref 121) _) _ _ _)); (fail_if_success (with_reducible show wpAny _ _ (PySem.call (Value.ref 145) _) _ _ _)); (fail_if_success (with_reducible show wpAny _ _ (PySem.call (Value.builtin "list.pop") _) _ _ _)); (fail_if_success (with_reducible show wpAny _ _ (compareOp CmpOp.NotEq (Value.ref _) (Value.ref _)) _ _ _)); (fail_if_success (with_reducible show wpAny _ _ (compareOp CmpOp.Eq (Value.ref _) (Value.ref _)) _ _ _)); (fail_if_success (with_reducible show wpAny _ _ (subscriptTail (PySem.Expr.Name (Str.ofString "mended") _) _ _ _) _ _ _)); first | (k_unfold; (try dsimp only)) | walk1 | (dsimp only; walk1) | (leave1; try dsimp only)))
        · exfalso; omega
        · rename Fr g L _ _ => FF
          rename News g L _ _ => NN
          refine row_item (TB := Dm) (Rs := Ms) NN (by k_mem) hckb.1 (by omega) (by omega) ?_
          have hmi := rowsLed_mem (Rs := Ms) (ks := ks) (us := uss) (i := ck.toNat) (by omega) (by omega) (by omega)
          have hMi := NN (Ms.getD ck.toNat 0, listOf (uss.getD ck.toNat []).toArray (ks.getD ck.toNat 0)) (by repeat (first | exact hrq _ hmi | refine List.Mem.tail _ ?_))
          have hMu := hM ck.toNat (by omega)
          rw [Int.toNat_of_nonneg hckb.1] at hMu
          refine ke_eq_ints ⟨_, (NN (R, _) (by k_mem)).1, rfl, _, rfl⟩ ⟨_, hMi.1, rfl, _, rfl⟩ hus hMu (by ke_room) ?_
          clear hMi hmi
          (repeat' ((fail_if_success (with_reducible show InvEndN _ _ _ _ _ _ _)); (fail_if_success (with_reducible show LCg.CompSrc _ _ _ _ _ _ _ (PySem.Expr.Call _ _ _ _) _ _ _ _ _ _)); (fail_if_success (with_reducible show wpAny _ _ (PySem.call (Value.ref 49) _) _ _ _)); (fail_if_success (with_reducible show wpAny _ _ (PySem.call (Value.ref 138) _) _ _ _)); (fail_if_success (with_reducible show wpAny _ _ (PySem.call (Value.ref 70) _) _ _ _)); (fail_if_success (with_reducible show wpAny _ _ (PySem.call (Value.ref 114) _) _ _ _)); (fail_if_success (with_reducible show wpAny _ _ (PySem.call (Value.ref 157) _) _ _ _)); (fail_if_success (with_reducible show wpAny _ _ (PySem.call (Value.ref 28) _) _ _ _)); (fail_if_success (with_reducible show wpAny _ _ (PySem.call (Value.ref 152) _) _ _ _)); (fail_if_success (with_reducible show wpAny _ _ (PySem.call (Value.ref 121) _) _ _ _)); (fail_if_success (with_reducible show wpAny _ _ (PySem.call (Value.ref 145) _) _ _ _)); (fail_if_success (with_reducible show wpAny _ _ (PySem.call (Value.builtin "list.pop") _) _ _ _)); (fail_if_success (with_reducible show wpAny _ _ (compareOp CmpOp.NotEq (Value.ref _) (Value.ref _)) _ _ _)); (fail_if_success (with_reducible show wpAny _ _ (compareOp CmpOp.Eq (Value.ref _) (Value.ref _)) _ _ _)); (fail_if_success (with_reducible show wpAny _ _ (subscriptTail (PySem.Expr.Name (Str.ofString "mended") _) _ _ _) _ _ _)); first | (k_unfold; (try dsimp only)) | walk1 | (dsimp only; walk1) | (leave1; try dsimp only)))
          · exfalso
            rename (_ != _) = true => hb
            cases ((neq_same hsame).symm.trans hb)
          · rename Fr g L _ _ => FZ
            rename News g L _ _ => NZ
            refine kst_end_o _ hrow2 FZ NZ ?hn ?ho ?ha ?hr
            case hn => exact (List.forall_mem_cons.mpr ⟨by k_mem, List.forall_mem_cons.mpr ⟨by k_mem, List.forall_mem_cons.mpr ⟨by k_mem, List.forall_mem_cons.mpr ⟨by k_mem, fun q hq => (by rw [ho9]; repeat (first | exact List.mem_append_left _ hq | refine List.Mem.tail _ ?_))⟩⟩⟩⟩)
            case ho => exact fun q hq => (by rw [ho9]; repeat (first | exact List.mem_append_right _ hq | refine List.Mem.tail _ ?_))
            case ha => rfl
            case hr =>
              intro z h1 h3
              have h4 := h3
              simp only [List.contains_cons, List.contains_nil, Bool.or_false, Bool.or_eq_false_iff, beq_eq_false_iff_ne, ne_eq] at h3
              simp only [h1, h3, h4, if_false, Bool.false_eq_true]
      · rename Fr g L _ _ => FF
        rename News g L _ _ => NN
        refine Pure.call (levV_ok _ _ _ (2 + due) _ _ _) B' FF X' T' NN rfl (by show _ < _; decide) (by show _ < _; decide) ⟨by omega, by omega, hlev.2⟩ ?_
        rintro v h4 tk4 st4 ⟨t4, rfl⟩ F4 N4
        clear st4 FF NN
        (repeat' ((fail_if_success (with_reducible show InvEndN _ _ _ _ _ _ _)); (fail_if_success (with_reducible show LCg.CompSrc _ _ _ _ _ _ _ (PySem.Expr.Call _ _ _ _) _ _ _ _ _ _)); (fail_if_success (with_reducible show wpAny _ _ (PySem.call (Value.ref 49) _) _ _ _)); (fail_if_success (with_reducible show wpAny _ _ (PySem.call (Value.ref 138) _) _ _ _)); (fail_if_success (with_reducible show wpAny _ _ (PySem.call (Value.ref 70) _) _ _ _)); (fail_if_success (with_reducible show wpAny _ _ (PySem.call (Value.ref 114) _) _ _ _)); (fail_if_success (with_reducible show wpAny _ _ (PySem.call (Value.ref 157) _) _ _ _)); (fail_if_success (with_reducible show wpAny _ _ (PySem.call (Value.ref 28) _) _ _ _)); (fail_if_success (with_reducible show wpAny _ _ (PySem.call (Value.ref 152) _) _ _ _)); (fail_if_success (with_reducible show wpAny _ _ (PySem.call (Value.ref 121) _) _ _ _)); (fail_if_success (with_reducible show wpAny _ _ (PySem.call (Value.ref 145) _) _ _ _)); (fail_if_success (with_reducible show wpAny _ _ (PySem.call (Value.builtin "list.pop") _) _ _ _)); (fail_if_success (with_reducible show wpAny _ _ (compareOp CmpOp.NotEq (Value.ref _) (Value.ref _)) _ _ _)); (fail_if_success (with_reducible show wpAny _ _ (compareOp CmpOp.Eq (Value.ref _) (Value.ref _)) _ _ _)); (fail_if_success (with_reducible show wpAny _ _ (subscriptTail (PySem.Expr.Name (Str.ofString "mended") _) _ _ _) _ _ _)); first | (k_unfold; (try dsimp only)) | walk1 | (dsimp only; walk1) | (leave1; try dsimp only)))
        · exfalso; omega
        · rename Fr g L _ _ => FF
          rename News g L _ _ => NN
          refine row_item (TB := Dm) (Rs := Ms) NN (by k_mem) hckb.1 (by omega) (by omega) ?_
          have hmi := rowsLed_mem (Rs := Ms) (ks := ks) (us := uss) (i := ck.toNat) (by omega) (by omega) (by omega)
          have hMi := NN (Ms.getD ck.toNat 0, listOf (uss.getD ck.toNat []).toArray (ks.getD ck.toNat 0)) (by repeat (first | exact hrq _ hmi | refine List.Mem.tail _ ?_))
          have hMu := hM ck.toNat (by omega)
          rw [Int.toNat_of_nonneg hckb.1] at hMu
          refine ke_eq_ints ⟨_, (NN (R, _) (by k_mem)).1, rfl, _, rfl⟩ ⟨_, hMi.1, rfl, _, rfl⟩ hus hMu (by ke_room) ?_
          clear hMi hmi
          (repeat' ((fail_if_success (with_reducible show InvEndN _ _ _ _ _ _ _)); (fail_if_success (with_reducible show LCg.CompSrc _ _ _ _ _ _ _ (PySem.Expr.Call _ _ _ _) _ _ _ _ _ _)); (fail_if_success (with_reducible show wpAny _ _ (PySem.call (Value.ref 49) _) _ _ _)); (fail_if_success (with_reducible show wpAny _ _ (PySem.call (Value.ref 138) _) _ _ _)); (fail_if_success (with_reducible show wpAny _ _ (PySem.call (Value.ref 70) _) _ _ _)); (fail_if_success (with_reducible show wpAny _ _ (PySem.call (Value.ref 114) _) _ _ _)); (fail_if_success (with_reducible show wpAny _ _ (PySem.call (Value.ref 157) _) _ _ _)); (fail_if_success (with_reducible show wpAny _ _ (PySem.call (Value.ref 28) _) _ _ _)); (fail_if_success (with_reducible show wpAny _ _ (PySem.call (Value.ref 152) _) _ _ _)); (fail_if_success (with_reducible show wpAny _ _ (PySem.call (Value.ref 121) _) _ _ _)); (fail_if_success (with_reducible show wpAny _ _ (PySem.call (Value.ref 145) _) _ _ _)); (fail_if_success (with_reducible show wpAny _ _ (PySem.call (Value.builtin "list.pop") _) _ _ _)); (fail_if_success (with_reducible show wpAny _ _ (compareOp CmpOp.NotEq (Value.ref _) (Value.ref _)) _ _ _)); (fail_if_success (with_reducible show wpAny _ _ (compareOp CmpOp.Eq (Value.ref _) (Value.ref _)) _ _ _)); (fail_if_success (with_reducible show wpAny _ _ (subscriptTail (PySem.Expr.Name (Str.ofString "mended") _) _ _ _) _ _ _)); first | (k_unfold; (try dsimp only)) | walk1 | (dsimp only; walk1) | (leave1; try dsimp only)))
          · exfalso
            rename (_ != _) = true => hb
            cases ((neq_same hsame).symm.trans hb)
          · rename Fr g L _ _ => FZ
            rename News g L _ _ => NZ
            refine kst_end_o _ hrow2 FZ NZ ?hn ?ho ?ha ?hr
            case hn => exact (List.forall_mem_cons.mpr ⟨by k_mem, List.forall_mem_cons.mpr ⟨by k_mem, List.forall_mem_cons.mpr ⟨by k_mem, List.forall_mem_cons.mpr ⟨by k_mem, fun q hq => (by rw [ho9]; repeat (first | exact List.mem_append_left _ hq | refine List.Mem.tail _ ?_))⟩⟩⟩⟩)
            case ho => exact fun q hq => (by rw [ho9]; repeat (first | exact List.mem_append_right _ hq | refine List.Mem.tail _ ?_))
            case ha => rfl
            case hr =>
              intro z h1 h3
              have h4 := h3
              simp only [List.contains_cons, List.contains_nil, Bool.or_false, Bool.or_eq_false_iff, beq_eq_false_iff_ne, ne_eq] at h3
              simp only [h1, h3, h4, if_false, Bool.false_eq_true]
  · intro orow u h tk hrow _ F N
    (repeat' ((fail_if_success (with_reducible show InvEndN _ _ _ _ _ _ _)); (fail_if_success (with_reducible show LCg.CompSrc _ _ _ _ _ _ _ (PySem.Expr.Call _ _ _ _) _ _ _ _ _ _)); (fail_if_success (with_reducible show wpAny _ _ (PySem.call (Value.ref 49) _) _ _ _)); (fail_if_success (with_reducible show wpAny _ _ (PySem.call (Value.ref 138) _) _ _ _)); (fail_if_success (with_reducible show wpAny _ _ (PySem.call (Value.ref 70) _) _ _ _)); (fail_if_success (with_reducible show wpAny _ _ (PySem.call (Value.ref 114) _) _ _ _)); (fail_if_success (with_reducible show wpAny _ _ (PySem.call (Value.ref 157) _) _ _ _)); (fail_if_success (with_reducible show wpAny _ _ (PySem.call (Value.ref 28) _) _ _ _)); (fail_if_success (with_reducible show wpAny _ _ (PySem.call (Value.ref 152) _) _ _ _)); (fail_if_success (with_reducible show wpAny _ _ (PySem.call (Value.ref 121) _) _ _ _)); (fail_if_success (with_reducible show wpAny _ _ (PySem.call (Value.ref 145) _) _ _ _)); (fail_if_success (with_reducible show wpAny _ _ (PySem.call (Value.builtin "list.pop") _) _ _ _)); (fail_if_success (with_reducible show wpAny _ _ (compareOp CmpOp.NotEq (Value.ref _) (Value.ref _)) _ _ _)); (fail_if_success (with_reducible show wpAny _ _ (compareOp CmpOp.Eq (Value.ref _) (Value.ref _)) _ _ _)); (fail_if_success (with_reducible show wpAny _ _ (subscriptTail (PySem.Expr.Name (Str.ofString "mended") _) _ _ _) _ _ _)); first | (k_unfold; (try dsimp only)) | walk1 | (dsimp only; walk1) | (leave1; try dsimp only)))
    exact hret _ _ _ _ (by assumption) (by assumption) (fun q hq => by repeat (first | exact ht q hq | refine List.Mem.tail _ ?_))

-- S4
open PySem PySem.W PyProof.Rows PyProof
set_option Elab.async false
set_option maxRecDepth 100000
set_option maxHeartbeats 8000000
set_option pp.deepTerms false
set_option pp.deepTerms.threshold 6
set_option rowWalk.seconds 0
theorem off3_step {h₀ h : Heap} {I C D L : Addr} {oI oC oD : Obj} {old new : Led} (off : LCg.Off3 I C D old) (N : News h₀ L h ((I, oI) :: (C, oC) :: (D, oD) :: old)) (k : ∀ p ∈ new, p.1 ∈ old.map (·.1) ∨ h.get? p.1 = none) : LCg.Off3 I C D new := LCg.Off3.of fun p hp => by
  rcases k p hp with q | q
  · obtain ⟨r, hr, e⟩ := List.mem_map.mp q
    rw [← e]; exact off.mem r hr
  · have z := News.neN N q
    exact ⟨Ne.symm (z _ (.head _)), Ne.symm (z _ (.tail _ (.head _))), Ne.symm (z _ (.tail _ (.tail _ (.head _))))⟩
theorem off1_ne {D : Addr} : ∀ {l : Led}, LCg.Off1 D l → ∀ q ∈ l, q.1 ≠ D
  | [], _, _, h => nomatch h
  | p :: r, x, q, hq => by
    rcases List.mem_cons.mp hq with rfl | hq
    · exact x.1
    · exact off1_ne x.2 q hq
theorem notin_of {t : Led} {a : Addr} (h : ∀ q ∈ t, q.1 ≠ a) : a ∉ t.map (·.1) := fun hm => by
  obtain ⟨r, hr, e⟩ := List.mem_map.mp hm
  exact h r hr e

/-- the ledger of the comprehension of the mended words -/
noncomputable def MLed (w : World) (L D : Addr) (lb : List Int) (fx : Led) (i : Nat) (ys : List Value) (nw : Led) : Prop :=
  ∃ Ms ks uss t, ys = Ms.map Value.ref ∧ Ms.length = i ∧ ks.length = i ∧ uss.length = i ∧ nw = fx ++ (rowsLed Ms ks uss ++ t) ∧ (∀ j, j < i → IntsAre (uss.getD j []) (mendedF lb (j : Int))) ∧ TabsOn w t ∧ (0 < i → FilT w t) ∧ ∀ q ∈ rowsLed Ms ks uss, ∀ b ∈ fx.map (·.1), q.1 ≠ b
theorem MLed.step {w : World} {L D : Addr} {lb : List Int} {fx t2 : Led} {i : Nat} {Ms : List Addr} {ks : List Nat} {uss : List (List Value)} {M : Addr} {k : Nat} {u : List Value} (h1 : Ms.length = i) (h2 : ks.length = i) (h3 : uss.length = i) (hM : ∀ j, j < i → IntsAre (uss.getD j []) (mendedF lb (j : Int))) (hu : IntsAre u (mendedF lb (i : Int))) (hf : FilT w t2) (hs : ∀ q ∈ rowsLed Ms ks uss, ∀ b ∈ fx.map (·.1), q.1 ≠ b) (hn : ∀ b ∈ fx.map (·.1), M ≠ b) :
    MLed w L D lb fx (i + 1) (Ms.map Value.ref ++ [.ref M]) (fx ++ (rowsLed (Ms ++ [M]) (ks ++ [k]) (uss ++ [u]) ++ t2)) := by
  refine ⟨Ms ++ [M], ks ++ [k], uss ++ [u], t2, by simp, by simp [h1], by simp [h2], by simp [h3], rfl, fun j hj => ?_, hf.on, fun _ => hf, fun q hq => ?_⟩
  · by_cases e : j < i
    · rw [List.getD_eq_getElem?_getD, List.getElem?_append_left (by omega), ← List.getD_eq_getElem?_getD]; exact hM j e
    · obtain rfl : j = i := by omega
      rw [List.getD_eq_getElem?_getD, List.getElem?_append_right (by omega), h3, Nat.sub_self]
      exact hu
  · rw [rowsLed_snoc (by omega) (by omega)] at hq
    rcases List.mem_append.mp hq with hq | hq
    · exact hs q hq
    · obtain rfl := List.mem_singleton.mp hq; exact hn

theorem law2_rest {w : World} {p : Program} {loose : List Str} {mean : ExcName → Option Value} {mg mb : Str → Option Value} {a : Addr} {ccd : Value} {base g : Heap} {L : Addr} {s : Shared} {Q : Flow → Shared → Prop} {E : Value → Shared → Prop}
    {m₀ : Str → Option Value} {lb ds : List Int} {us ysl : List Value} {D Dl : Addr} {c : Nat} {orow olet oleft : Obj} {n : Int} {t1 tc : Tok} {t : Led}
    (B' : Below callerA base [] g) (F' : Fr g L s.heap (kstB m₀ [(Str.ofString "cost", .int (costF n) tc), (Str.ofString "draws", .ref D)])) (X' : (hd2.heap_1 w.params).In g) (T' : Top p loose mean mg mb g)
    (hn0 : 0 ≤ n) (hn1 : n < 12)
    (N' : News g L s.heap ((Dl, LCg.lst ysl) :: (D, listOf us.toArray c) :: (L + 1 + 1 + 1, orow) :: (L + 1 + 1, olet) :: (L + 1, oleft) :: t)) (hto : TabsOn w t)
    (hrow : orow.data = .cell none) (hlet : olet.data = .cell (some (.str (lettersF n) t1))) (hleft : oleft.data = .cell (some (.ref Dl)))
    (hI : IntsAre us ds) (hIl : IntsAre ysl lb) (hdl : 1 < ds.length) (hdl3 : ds.length ≤ 3) (hbits : Bits lb)
    (hE : PassesOwn (model PySem.Challenge.rw_rs0157_02.prog w) (callerA.deeper (lawEnv w.params L a ccd)) (lawEnv w.params L a ccd) E)
    (hret : ∀ h' tk' m' nx, Fr g L h' m' → News g L h' nx → (∃ ps, (51, tabObj ps) ∈ nx) → (∃ ps, (44, tabObj ps) ∈ nx) → Q (.ret (.bool true)) { s with heap := h', toks := tk' }) :
    wpAny (model PySem.Challenge.rw_rs0157_02.prog w) (callerA.deeper (lawEnv w.params L a ccd)) (execs ((lawBody w.params).drop 4) (lawEnv w.params L a ccd)) Q E s := by
  revert X'
  k_fill
  intro X'
  revert hE
  k_with_none
  w_top off
  generalize hbody : (lawBody w.params).drop 4 = body
  unfold lawEnv
  generalize hscope : lawScope w.params = sc
  conv at hbody => lhs; whnf
  conv at hscope => lhs; whnf
  subst hbody hscope
  intro hE
  dsimp only [kstB] at F'
  (try dsimp only); (try k_fold)
  have hbin := bits_bin hbits
  have hll := letters_len hn0 hn1
  have hyl := hIl.length
  have hlen := hbits.1
  (repeat' ((fail_if_success (with_reducible show wpAny _ _ (PySem.call (Value.ref 145) _) _ _ _)); (fail_if_success (with_reducible show wpAny _ _ (PySem.call (Value.ref 28) _) _ _ _)); (fail_if_success (with_reducible show wpAny _ _ (PySem.call (Value.ref 152) _) _ _ _)); (fail_if_success (with_reducible show wpAny _ _ (PySem.call (Value.ref 121) _) _ _ _)); (fail_if_success (with_reducible show LCg.CompSrc _ _ _ _ _ _ _ (PySem.Expr.Call _ _ _ _) _ _ _ _ _ _)); (fail_if_success (with_reducible show LCg.CompRest _ _ _ _ _ _ _ _ _ _ _ _ _ _ _ _ _ _ _)); (fail_if_success (with_reducible show wpAny _ _ (exec (Stmt.For _ _ _ _ _) _) _ _ _)); first | (k_unfold; (try dsimp only)) | walk1 | (dsimp only; walk1) | (leave1; try dsimp only)))
  refine Pure.call (reply_ok _ _) B' (by assumption) X' T' (by assumption) rfl (by show _ < _; decide) (by show _ < _; decide) (by (try simp only [Str.length_append]); omega) ?_
  rintro v h2 tk2 st2 ⟨t2, rfl⟩ F2 N2
  clear st2
  (repeat' ((fail_if_success (with_reducible show wpAny _ _ (PySem.call (Value.ref 145) _) _ _ _)); (fail_if_success (with_reducible show wpAny _ _ (PySem.call (Value.ref 28) _) _ _ _)); (fail_if_success (with_reducible show wpAny _ _ (PySem.call (Value.ref 152) _) _ _ _)); (fail_if_success (with_reducible show wpAny _ _ (PySem.call (Value.ref 121) _) _ _ _)); (fail_if_success (with_reducible show LCg.CompSrc _ _ _ _ _ _ _ (PySem.Expr.Call _ _ _ _) _ _ _ _ _ _)); (fail_if_success (with_reducible show LCg.CompRest _ _ _ _ _ _ _ _ _ _ _ _ _ _ _ _ _ _ _)); (fail_if_success (with_reducible show wpAny _ _ (exec (Stmt.For _ _ _ _ _) _) _ _ _)); first | (k_unfold; (try dsimp only)) | walk1 | (dsimp only; walk1) | (leave1; try dsimp only)))
  refine Pure.call (p257r_ok _ _) B' (by assumption) X' T' (by assumption) rfl (by show _ < _; decide) (by show _ < _; decide) (by omega) ?_
  rintro v h3 tk3 st3 ⟨t3, rfl⟩ F3 N3
  clear st3 F2 N2
  (repeat' ((fail_if_success (with_reducible show wpAny _ _ (PySem.call (Value.ref 145) _) _ _ _)); (fail_if_success (with_reducible show wpAny _ _ (PySem.call (Value.ref 28) _) _ _ _)); (fail_if_success (with_reducible show wpAny _ _ (PySem.call (Value.ref 152) _) _ _ _)); (fail_if_success (with_reducible show wpAny _ _ (PySem.call (Value.ref 121) _) _ _ _)); (fail_if_success (with_reducible show LCg.CompSrc _ _ _ _ _ _ _ (PySem.Expr.Call _ _ _ _) _ _ _ _ _ _)); (fail_if_success (with_reducible show LCg.CompRest _ _ _ _ _ _ _ _ _ _ _ _ _ _ _ _ _ _ _)); (fail_if_success (with_reducible show wpAny _ _ (exec (Stmt.For _ _ _ _ _) _) _ _ _)); first | (k_unfold; (try dsimp only)) | walk1 | (dsimp only; walk1) | (leave1; try dsimp only)))
  all_goals (try (exfalso; rename (Txt.join _ _ != Txt.join _ _) = true => hb; rw [bne_self_eq_false] at hb; cases hb; done))
  have e1 : (Str.ofString "ab").length = 2 := by decide +kernel
  have e2 : (Str.ofString "k").length = 1 := by decide +kernel
  have e3 : (Str.ofString "jab").length = 3 := by decide +kernel
  refine Pure.call (levV_ok _ _ _ 4 _ _ _) B' (by assumption) X' T' (by assumption) rfl (by show _ < _; decide) (by show _ < _; decide) ⟨by omega, by omega, lev_ends hn0 hn1 hbits⟩ ?_
  rintro v h4 tk4 st4 ⟨t4, rfl⟩ F4 N4
  clear st4
  (repeat' ((fail_if_success (with_reducible show wpAny _ _ (PySem.call (Value.ref 145) _) _ _ _)); (fail_if_success (with_reducible show wpAny _ _ (PySem.call (Value.ref 28) _) _ _ _)); (fail_if_success (with_reducible show wpAny _ _ (PySem.call (Value.ref 152) _) _ _ _)); (fail_if_success (with_reducible show wpAny _ _ (PySem.call (Value.ref 121) _) _ _ _)); (fail_if_success (with_reducible show LCg.CompSrc _ _ _ _ _ _ _ (PySem.Expr.Call _ _ _ _) _ _ _ _ _ _)); (fail_if_success (with_reducible show LCg.CompRest _ _ _ _ _ _ _ _ _ _ _ _ _ _ _ _ _ _ _)); (fail_if_success (with_reducible show wpAny _ _ (exec (Stmt.For _ _ _ _ _) _) _ _ _)); first | (k_unfold; (try dsimp only)) | walk1 | (dsimp only; walk1) | (leave1; try dsimp only)))
  rename Fr g L _ _ => FF
  rename News g L _ _ => NN
  rename IsRange _ _ _ _ _ _ _ _ => hR
  rename IntsAre _ lb => hIl
  have NX : News g L _ ((Dl, LCg.lst ysl) :: (D, listOf us.toArray c) :: (L + 1 + 1 + 1, orow) :: (L + 1 + 1, olet) :: (L + 1, oleft) :: t) := News.sub NN fun q hq => List.Mem.tail _ (List.Mem.tail _ hq)
  have hdl0 : lb.length + 1 + 1 ≤ 5 := by omega
  refine LCg.CompSrc.range (n := lb.length + 2) (by rfl) FF NX hR (by rw [show (lb.length : Int) + 1 + 1 = ((lb.length + 2 : Nat) : Int) by omega]; exact smallS (by omega)) (by rw [rangeSize_nat]; omega) (by rw [PySem.sizeLine_eq]; omega) ?_
  intro g'
  obtain ⟨fx, hfx⟩ : ∃ fx : Led, fx = [(Dl, LCg.lst ysl), (D, listOf us.toArray c), (L + 1 + 1 + 1, orow), (L + 1 + 1, olet), (L + 1, oleft)] := ⟨_, rfl⟩
  refine comp_ind (MLed w L D lb fx) (lb.length + 2) ?_ ?_ _ 0 [] _ (Nat.zero_add _) ⟨[], [], [], t, rfl, rfl, rfl, rfl, by rw [hfx]; rfl, fun j hj => absurd hj (Nat.not_lt_zero _), hto, fun h => absurd h (Nat.lt_irrefl _), fun q hq => by simp [rowsLed] at hq⟩
  · clear FF NN NX hR hto
    rintro i ys nw hi ⟨Ms, ks, uss, t, rfl, hl1, hl2, hl3, rfl, hM, hto, hf, hsp⟩ v I oI C oC Dq mq h tk E9 ⟨tv, rfl⟩ hC hx F N off ne
    rw [hfx] at N
    simp only [List.cons_append, List.nil_append] at N
    obtain ⟨nothing, hpk⟩ : ∃ P : Prop, P ∧ (P → (∀ j, j < i → IntsAre (uss.getD j []) (mendedF lb (j : Int))) ∧ (0 < i → FilT w t) ∧ ∀ q ∈ rowsLed Ms ks uss, ∀ b ∈ fx.map (·.1), q.1 ≠ b) := ⟨True, True.intro, fun _ => ⟨hM, hf, hsp⟩⟩
    clear hM hf hsp
    (repeat' ((fail_if_success (with_reducible show wpAny _ _ (PySem.call (Value.ref 145) _) _ _ _)); (fail_if_success (with_reducible show wpAny _ _ (PySem.call (Value.ref 28) _) _ _ _)); (fail_if_success (with_reducible show wpAny _ _ (PySem.call (Value.ref 152) _) _ _ _)); (fail_if_success (with_reducible show wpAny _ _ (PySem.call (Value.ref 121) _) _ _ _)); (fail_if_success (with_reducible show LCg.CompSrc _ _ _ _ _ _ _ (PySem.Expr.Call _ _ _ _) _ _ _ _ _ _)); (fail_if_success (with_reducible show LCg.CompRest _ _ _ _ _ _ _ _ _ _ _ _ _ _ _ _ _ _ _)); (fail_if_success (with_reducible show wpAny _ _ (exec (Stmt.For _ _ _ _ _) _) _ _ _)); first | (k_unfold; (try dsimp only)) | walk1 | (dsimp only; walk1) | (leave1; try dsimp only)))
    rename Fr g L _ _ => FF
    rename News g L _ _ => NN
    rename IntsAre _ lb => hIl
    obtain ⟨hM, hf, hsp⟩ := hpk.2 hpk.1
    clear hpk
    have hnt : ∀ {a : Addr} {o : Obj}, (a, o) ∈ ((I, oI) :: (C, oC) :: (Dq, LCg.lst (Ms.map Value.ref)) :: (Dl, LCg.lst ysl) :: (D, listOf us.toArray c) :: (L + 1 + 1 + 1, orow) :: (L + 1 + 1, olet) :: (L + 1, oleft) :: (rowsLed Ms ks uss ++ t)) → (∀ vs, o.data ≠ .fields vs) → a ∉ t.map (·.1) := fun {a o} hm hd => notin_of (hto.off NN (o := o) hm (fun q hq => (by repeat (first | exact hq | exact List.mem_append_left _ hq | exact List.mem_append_right _ hq | refine List.Mem.tail _ ?_ | refine List.mem_append_right _ ?_))) hd)
    refine PureE.call (mendedU_ok Dl _ lb _ _ t hto) ((I, oI) :: (C, oC) :: (Dq, LCg.lst (Ms.map Value.ref)) :: (Dl, LCg.lst ysl) :: (D, listOf us.toArray c) :: (L + 1 + 1 + 1, orow) :: (L + 1 + 1, olet) :: (L + 1, oleft) :: rowsLed Ms ks uss) B' FF X' T' NN rfl (by show _ < _; decide) (by show _ < _; decide) (fun q hq => (by repeat (first | exact hq | exact List.mem_append_left _ hq | exact List.mem_append_right _ hq | refine List.Mem.tail _ ?_ | refine List.mem_append_right _ ?_))) ?_ ⟨⟨_, (NN (Dl, _) (by k_mem)).1, rfl, _, rfl⟩, hIl, hbits, by omega, by omega⟩ ?_
    · refine List.forall_mem_cons.mpr ⟨⟨by k_mem, notin_of fun r hr => (off.mem r (List.mem_append_right _ (List.mem_append_right _ hr))).1⟩, List.forall_mem_cons.mpr ⟨⟨by k_mem, notin_of fun r hr => (off.mem r (List.mem_append_right _ (List.mem_append_right _ hr))).2.1⟩, List.forall_mem_cons.mpr ⟨⟨by k_mem, notin_of fun r hr => (off.mem r (List.mem_append_right _ (List.mem_append_right _ hr))).2.2⟩, List.forall_mem_cons.mpr ⟨⟨by k_mem, hnt (by k_mem) fun vs e => by cases e⟩, List.forall_mem_cons.mpr ⟨⟨by k_mem, hnt (by k_mem) fun vs e => by cases e⟩, List.forall_mem_cons.mpr ⟨⟨by k_mem, hnt (o := orow) (by k_mem) fun vs e => by rw [hrow] at e; cases e⟩, List.forall_mem_cons.mpr ⟨⟨by k_mem, hnt (o := olet) (by k_mem) fun vs e => by rw [hlet] at e; cases e⟩, List.forall_mem_cons.mpr ⟨⟨by k_mem, hnt (o := oleft) (by k_mem) fun vs e => by rw [hleft] at e; cases e⟩, fun q hq => ?_⟩⟩⟩⟩⟩⟩⟩⟩
      obtain ⟨u, k, e⟩ := rowsLed_like q hq
      exact ⟨(by repeat (first | exact hq | exact List.mem_append_left _ hq | exact List.mem_append_right _ hq | refine List.Mem.tail _ ?_ | refine List.mem_append_right _ ?_)), hnt (a := q.1) (o := q.2) (by repeat (first | exact hq | exact List.mem_append_left _ hq | exact List.mem_append_right _ hq | refine List.Mem.tail _ ?_ | refine List.mem_append_right _ ?_)) fun vs e2 => by rw [e] at e2; cases e2⟩
    · rintro v h2 tk2 t2 st2 ⟨hto2, hft2⟩ ⟨M, o, rfl, hM0, hMg, u, k, rfl, hu⟩ F2 N2
      have N3 := News.addD FF N2 hM0 hMg
      have hne := News.neN NN hM0
      have hfe : ((Dl, LCg.lst ysl) :: (D, listOf us.toArray c) :: (L + 1 + 1 + 1, orow) :: (L + 1 + 1, olet) :: (L + 1, oleft) :: (rowsLed Ms ks uss ++ t) : Led) = fx ++ (rowsLed Ms ks uss ++ t) := by rw [hfx]; rfl
      have N0 := NN
      rw [hfe] at N0
      simp only [List.cons_append] at N3
      rw [Int.zero_add] at hu
      refine LCg.CompEnd.intro F2 N3 (fx ++ (rowsLed (Ms ++ [M]) (ks ++ [k]) (uss ++ [u]) ++ t2)) ?_ (off3_step off N0 fun q hq => ?_) True.intro (MLed.step hl1 hl2 hl3 hM hu hft2 hsp fun b hb e => ?_)
      · refine List.forall_mem_cons.mpr ⟨by k_mem, List.forall_mem_cons.mpr ⟨by k_mem, List.forall_mem_cons.mpr ⟨by k_mem, fun q hq => ?_⟩⟩⟩
        rcases List.mem_append.mp hq with hq | hq
        · rw [hfx] at hq
          simp only [List.mem_cons, List.mem_nil_iff, or_false] at hq
          rcases hq with rfl | rfl | rfl | rfl | rfl <;> k_mem
        · rcases List.mem_append.mp hq with hq | hq
          · rw [rowsLed_snoc (by omega) (by omega)] at hq
            rcases List.mem_append.mp hq with hq | hq
            · exact (by repeat (first | exact hq | exact List.mem_append_left _ hq | exact List.mem_append_right _ hq | refine List.Mem.tail _ ?_ | refine List.mem_append_right _ ?_))
            · rw [List.mem_singleton.mp hq]; exact List.Mem.head _
          · exact (by repeat (first | exact hq | exact List.mem_append_left _ hq | exact List.mem_append_right _ hq | refine List.Mem.tail _ ?_ | refine List.mem_append_right _ ?_))
      · rcases List.mem_append.mp hq with hq | hq
        · exact .inl (mem_fst (List.mem_append_left _ hq))
        · rcases List.mem_append.mp hq with hq | hq
          · rw [rowsLed_snoc (by omega) (by omega)] at hq
            rcases List.mem_append.mp hq with hq | hq
            · exact .inl (mem_fst (List.mem_append_right _ (List.mem_append_left _ hq)))
            · rw [List.mem_singleton.mp hq]; exact .inr hM0
          · rcases hto2.2.1 q hq with hz | hz
            · obtain ⟨r, hr, e⟩ := List.mem_map.mp hz
              rw [← e]
              exact .inl (mem_fst (List.mem_append_right _ (List.mem_append_right _ hr)))
            · exact .inr hz
      · obtain ⟨r, hr, e2⟩ := List.mem_map.mp hb
        refine hne r ?_ (e2.trans e.symm)
        rw [hfx] at hr
        simp only [List.mem_cons, List.mem_nil_iff, or_false] at hr
        rcases hr with rfl | rfl | rfl | rfl | rfl <;> k_mem
  · rintro ys nw ⟨Ms, ks, uss, t, rfl, hl1, hl2, hl3, rfl, hM, hto, hf, hsp⟩
    intro Dm h tk F N off
    have hft := hf (by omega)
    have hof := off1_ne off
    have N4 : News g L h ((Dm, LCg.lst (Ms.map Value.ref)) :: (D, listOf us.toArray c) :: (L + 1 + 1 + 1, orow) :: (L + 1 + 1, olet) :: (rowsLed Ms ks uss ++ t)) := News.sub N fun q hq => by
      rw [hfx]
      rcases List.mem_cons.mp hq with rfl | hq
      · exact List.Mem.head _
      · refine List.Mem.tail _ ?_
        rcases List.mem_cons.mp hq with rfl | hq
        · exact .tail _ (.head _)
        · rcases List.mem_cons.mp hq with rfl | hq
          · exact .tail _ (.tail _ (.head _))
          · rcases List.mem_cons.mp hq with rfl | hq
            · exact .tail _ (.tail _ (.tail _ (.head _)))
            · exact List.mem_append_right _ hq
    refine law2_loop (ow := rowsLed Ms ks uss ++ t) (t := t) (ks := ks) (uss := uss) B' (Fr.kst _ F (List.forall_mem_cons.mpr ⟨rfl, List.forall_mem_cons.mpr ⟨rfl, List.forall_mem_cons.mpr ⟨rfl, List.forall_mem_cons.mpr ⟨rfl, List.forall_mem_cons.mpr ⟨rfl, List.forall_mem_nil _⟩⟩⟩⟩⟩)) X' T' hn0 hn1 N4 hrow hlet hI hdl hdl3 hbits hft (fun q hq => List.mem_append_right _ hq) (fun q hq => List.mem_append_left _ hq) hl1 hl2 hl3 hM ?hsep hE ?hret
    case hsep =>
      intro q hq b hb
      simp only [List.mem_cons, List.mem_nil_iff, or_false] at hb
      rcases List.mem_append.mp hq with hq | hq
      · rcases hb with rfl | hb
        · exact hof q (List.mem_append_right _ (List.mem_append_left _ hq))
        · refine hsp q hq b ?_
          rw [hfx]
          rcases hb with rfl | rfl | rfl
          · exact .tail _ (.head _)
          · exact .tail _ (.tail _ (.head _))
          · exact .tail _ (.tail _ (.tail _ (.head _)))
      · rcases hb with rfl | rfl | rfl | rfl
        · exact hof q (List.mem_append_right _ (List.mem_append_right _ hq))
        · exact hto.off (o := listOf us.toArray c) N4 (.tail _ (.head _)) (fun q hq => (by repeat (first | exact hq | exact List.mem_append_left _ hq | exact List.mem_append_right _ hq | refine List.Mem.tail _ ?_ | refine List.mem_append_right _ ?_))) (fun vs e => by cases e) q hq
        · exact hto.off (o := orow) N4 (.tail _ (.tail _ (.head _))) (fun q hq => (by repeat (first | exact hq | exact List.mem_append_left _ hq | exact List.mem_append_right _ hq | refine List.Mem.tail _ ?_ | refine List.mem_append_right _ ?_))) (fun vs e => by rw [hrow] at e; cases e) q hq
        · exact hto.off (o := olet) N4 (.tail _ (.tail _ (.tail _ (.head _)))) (fun q hq => (by repeat (first | exact hq | exact List.mem_append_left _ hq | exact List.mem_append_right _ hq | refine List.Mem.tail _ ?_ | refine List.mem_append_right _ ?_))) (fun vs e => by rw [hlet] at e; cases e) q hq
    case hret =>
      intro h' tk' m' nx F N hs
      obtain ⟨⟨p1, h1⟩, ⟨p2, h2⟩⟩ := hft.tabs
      exact hret _ _ _ _ F N ⟨p2, hs _ h2⟩ ⟨p1, hs _ h1⟩

-- L2U
open PySem PySem.W PyProof.Rows PyProof
set_option Elab.async false
set_option maxRecDepth 100000
set_option maxHeartbeats 8000000
set_option pp.deepTerms false
set_option pp.deepTerms.threshold 6
set_option rowWalk.seconds 0

theorem cost_one {n : Int} (h : [Str.ofString "xX", Str.ofString "Xx"].any (fun x => x == lettersF n) = true) : costF n = 1 := by unfold costF; rw [if_pos h]
theorem cost_two {n : Int} (h : [Str.ofString "xX", Str.ofString "Xx"].any (fun x => x == lettersF n) = false) : costF n = 2 := by unfold costF; rw [h]; rfl
theorem left_bits {ds : List Int} (h : ds.length = 2 ∨ ds.length = 3) : Bits (ds.map fun k => k.fmod 2) := by
  refine ⟨by rw [List.length_map]; exact h, fun b hb => ?_⟩
  obtain ⟨d, _, rfl⟩ := List.mem_map.mp hb
  have h1 := Int.fmod_nonneg_of_pos d (b := 2) (by decide)
  have h2 := Int.fmod_lt_of_pos d (b := 2) (by decide)
  omega
theorem law2 : PySem.Challenge.rw_rs0157_02.Holds := by
  refine hd2 ?_
  w_top off
  k_go0
  (all_goals try k_fold)
  (repeat' ((fail_if_success (with_reducible show wpAny _ _ (PySem.call (Value.ref 126) _) _ _ _)); (fail_if_success (with_reducible show wpAny _ _ (PySem.call (Value.ref 133) _) _ _ _)); (fail_if_success (with_reducible show wpAny _ _ (execs (Stmt.Assign [PySem.Expr.Name (Str.ofString "heard") _] _ _ :: _) _) _ _ _)); first | (k_unfold; (try dsimp only)) | walk1 | (dsimp only; walk1) | (leave1; try dsimp only)))
  rename Frag.In _ _ => X'
  rename Below _ _ _ _ => B'
  rename Top topProg _ _ _ _ _ => T'
  rename News _ _ _ _ => N0
  rename Fr _ _ _ _ => F0
  rename IntsAre _ (List.take 63 _) => hI0
  rename (List.take 63 _).length = min 63 _ => hC0
  refine Pure.call (draws_ok _ _ _) B' F0 X' T' N0 rfl (by show _ < _; (try dsimp only); decide) (by show _ < _; (try dsimp only); decide) ⟨⟨_, (N0 _ (List.Mem.head _)).1, rfl, _, rfl⟩, hI0, by rw [hC0]; omega⟩ ?_
  rintro v h2 tk2 st2 ⟨D, o, rfl, hD0, hD1, ds, ⟨us, c, rfl, hI⟩, hlen, hbd⟩ F2 N2
  have N3 := News.addD F0 N2 hD0 hD1
  have hne := News.neN N0 hD0
  clear N2 st2 hD0 hD1 N0 F0
  have hIl := hI.length
  (repeat' ((fail_if_success (with_reducible show wpAny _ _ (PySem.call (Value.ref 126) _) _ _ _)); (fail_if_success (with_reducible show wpAny _ _ (PySem.call (Value.ref 133) _) _ _ _)); (fail_if_success (with_reducible show wpAny _ _ (execs (Stmt.Assign [PySem.Expr.Name (Str.ofString "heard") _] _ _ :: _) _) _ _ _)); first | (k_unfold; (try dsimp only)) | walk1 | (dsimp only; walk1) | (leave1; try dsimp only)))
  rename Fr _ _ _ _ => F5
  rename News _ _ _ _ => N5
  refine Pure.call (letters_ok _ _) B' F5 X' T' N5 rfl (by show _ < _; decide) (by show _ < _; decide) ⟨Int.fmod_nonneg_of_pos _ (by decide), Int.fmod_lt_of_pos _ (by decide)⟩ ?_
  rintro v h8 tk8 st8 ⟨t8, rfl⟩ F8 N8
  clear st8 F5 N5
  (repeat' ((fail_if_success (with_reducible show wpAny _ _ (PySem.call (Value.ref 126) _) _ _ _)); (fail_if_success (with_reducible show wpAny _ _ (PySem.call (Value.ref 133) _) _ _ _)); (fail_if_success (with_reducible show wpAny _ _ (execs (Stmt.Assign [PySem.Expr.Name (Str.ofString "heard") _] _ _ :: _) _) _ _ _)); first | (k_unfold; (try dsimp only)) | walk1 | (dsimp only; walk1) | (leave1; try dsimp only)))
  · rename (List.any _ _) = true => hc
    rename Fr _ _ _ _ => FF
    rename News _ _ _ _ => NN
    rename Obj.data _ = Data.cell (some (Value.ref _)) => hleft
    rename Obj.data _ = Data.cell (some (Value.str _ _)) => hlet
    rename IntsAre _ (List.map _ ds) => hIl
    refine' law2_rest (ds := ds) (us := us) (D := D) (t := [(44, tabObj #[]), (51, tabObj #[])]) B' ?F X' T' (Int.fmod_nonneg_of_pos _ (by decide)) (Int.fmod_lt_of_pos _ (by decide)) ?N (TabsOn.empty _) ?row hlet hleft hI hIl (by omega) (by omega) (left_bits hlen) ?hE ?hret
    case N => exact News.sub NN (List.forall_mem_cons.mpr ⟨by k_mem, List.forall_mem_cons.mpr ⟨by k_mem, List.forall_mem_cons.mpr ⟨by k_mem, List.forall_mem_cons.mpr ⟨by k_mem, List.forall_mem_cons.mpr ⟨by k_mem, List.forall_mem_cons.mpr ⟨by k_mem, List.forall_mem_cons.mpr ⟨by k_mem, List.forall_mem_nil _⟩⟩⟩⟩⟩⟩⟩)
    case row => assumption
    case F => rw [cost_one hc]; exact FF
    case hE => passes_own
    case hret =>
      rintro h' tk' m' nx F N ⟨ps1, h51⟩ ⟨ps2, h44⟩
      refine ⟨?_, ⟨ps1, (N _ h51).1⟩, ⟨ps2, (N _ h44).1⟩, True.intro⟩
      dsimp only
      k_end; wrow_close
  · rename (List.any _ _) = false => hc
    rename Fr _ _ _ _ => FF
    rename News _ _ _ _ => NN
    rename Obj.data _ = Data.cell (some (Value.ref _)) => hleft
    rename Obj.data _ = Data.cell (some (Value.str _ _)) => hlet
    rename IntsAre _ (List.map _ ds) => hIl
    refine' law2_rest (ds := ds) (us := us) (D := D) (t := [(44, tabObj #[]), (51, tabObj #[])]) B' ?F X' T' (Int.fmod_nonneg_of_pos _ (by decide)) (Int.fmod_lt_of_pos _ (by decide)) ?N (TabsOn.empty _) ?row hlet hleft hI hIl (by omega) (by omega) (left_bits hlen) ?hE ?hret
    case N => exact News.sub NN (List.forall_mem_cons.mpr ⟨by k_mem, List.forall_mem_cons.mpr ⟨by k_mem, List.forall_mem_cons.mpr ⟨by k_mem, List.forall_mem_cons.mpr ⟨by k_mem, List.forall_mem_cons.mpr ⟨by k_mem, List.forall_mem_cons.mpr ⟨by k_mem, List.forall_mem_cons.mpr ⟨by k_mem, List.forall_mem_nil _⟩⟩⟩⟩⟩⟩⟩)
    case row => assumption
    case F => rw [cost_two hc]; exact FF
    case hE => passes_own
    case hret =>
      rintro h' tk' m' nx F N ⟨ps1, h51⟩ ⟨ps2, h44⟩
      refine ⟨?_, ⟨ps1, (N _ h51).1⟩, ⟨ps2, (N _ h44).1⟩, True.intro⟩
      dsimp only
      k_end; wrow_close
end Mine

set_option maxRecDepth 100000 in
set_option maxHeartbeats 8000000 in
theorem PySem.Challenge.cw_rs0157_02_holds : PySem.Challenge.rw_rs0157_02.Holds := by
  exact Mine.law2
