import PyProof.Rows.All
import Wide.All
import OpenK.AllK
import Wide.FinOn
import PySem.Challenge.RW_rs0157_01
local macro_rules | `(tactic| omega) => `(tactic| first | lia | omega (splitDisjunctions := true))
-- HX1
open PySem PySem.W PyProof.Rows
set_option Elab.async false
set_option maxRecDepth 100000
set_option maxHeartbeats 8000000
namespace Mine
def keepOf (b : List Stmt) : List Stmt := (b.take 6).drop 1 ++ ((b.take 14).drop 7 ++ ((b.take 20).drop 15 ++ b.drop 21))
noncomputable def view : Program := { PySem.Challenge.rw_rs0157_01.prog with main := { PySem.Challenge.rw_rs0157_01.prog.main with body := keepOf PySem.Challenge.rw_rs0157_01.prog.main.body } }
noncomputable abbrev look : Shared → Bool := fun s => xlAt Mine.view [] s && recOk (RowW.records (OpenRow.toRowW (OpenLaw.row PySem.Challenge.rw_rs0157_01))) s
theorem opener (H : Hook) {d : DefRec} {kwd : List (Str × Expr)}
    (hl : LeftO (OpenRow.toRowW (OpenLaw.row PySem.Challenge.rw_rs0157_01)).prog view [] look H.obs H.val 2704) (hdef : defOf view (OpenLaw.row PySem.Challenge.rw_rs0157_01).name = some (d, kwd))
    (hp : (OpenRow.toRowW (OpenLaw.row PySem.Challenge.rw_rs0157_01)).prog.theDef (OpenLaw.row PySem.Challenge.rw_rs0157_01).name = some (d.params, d.body, d.scope)) (hk : kwWritten? d.params.kwonlyargs d.params.kw_defaults = some kwd)
    (k1 : (OpenLaw.row PySem.Challenge.rw_rs0157_01).wellSaid = true) (hw : (OpenRow.toRowW (OpenLaw.row PySem.Challenge.rw_rs0157_01)).promised) (hc : WalkO view [] (XL view []) H.says (OpenRow.toRowW (OpenLaw.row PySem.Challenge.rw_rs0157_01)) d kwd fun f vs => PySem.call f vs) : (OpenLaw.row PySem.Challenge.rw_rs0157_01).Holds :=
  holds_open (Xt := look) hl H.of H.keeps (fun s e => xl_of s (Bool.and_eq_true_iff.mp e).1) XL.keeps hdef hp hk (fun s e => recFacts_of (Bool.and_eq_true_iff.mp e).2) (by rfl) k1 (by decide +kernel) ⟨rfl, rfl, rfl, rfl, rfl, by decide +kernel⟩ hw hc
theorem saidT : PySem.Challenge.rw_rs0157_01.wellSaid = true := by kernel_rfl
end Mine
local macro_rules | `(tactic| o_head $H) => `(tactic| (refine Mine.opener $H ?hl (by rfl) (by rfl) (by rfl) (by assumption) ?hw ?hc; case hl => intro w; kernel_rfl))
local macro_rules | `(tactic| o_law) => `(tactic| refine holds_law Mine.saidT fun said => ?_)
open_top hd1 for PySem.Challenge.rw_rs0157_01

-- Base
open PySem PySem.W PyProof.Rows
set_option Elab.async false
set_option maxRecDepth 100000
namespace Mine

/-- a goal at which the walk stands still -/
noncomputable def Stop (P : Prop) : Prop := P

/-- what a cut hands on: a state of the frame, told by a letter c -/
noncomputable def Hand {σ : Type} (g : Heap) (L : Addr) (s : Shared) (Led : σ → List (Addr × Obj)) (ps : σ → List (Str × Value)) (stored : List Str) (m : Str → Option Value) (D : σ → Prop) (s₂ : Shared) : Prop :=
  ∃ (c : σ) (h : Heap) (tk : Nat) (m' : Str → Option Value) (nx : List (Addr × Obj)), s₂ = { s with heap := h, toks := tk } ∧ Fr g L h m' ∧ News g L h nx ∧ (∀ p ∈ Led c, p ∈ nx) ∧ (∀ p ∈ ps c, m' p.1 = some p.2) ∧ (∀ z, (∀ p ∈ ps c, z ≠ p.1) → stored.contains z = false → m' z = m z) ∧ D c

theorem Hand.mk {σ : Type} {g : Heap} {L : Addr} {s : Shared} {Led : σ → List (Addr × Obj)} {ps : σ → List (Str × Value)} {stored : List Str} {m m' : Str → Option Value} {D : σ → Prop} {h : Heap} {tk : Nat} {nx : List (Addr × Obj)} (c : σ)
    (F : Fr g L h m') (N : News g L h nx) (hn : ∀ p ∈ Led c, p ∈ nx) (hk : ∀ p ∈ ps c, m' p.1 = some p.2) (hr : ∀ z, (∀ p ∈ ps c, z ≠ p.1) → stored.contains z = false → m' z = m z) (hd : D c) :
    Stop (Hand g L s Led ps stored m D { s with heap := h, toks := tk }) := ⟨c, h, tk, m', nx, rfl, F, N, hn, hk, hr, hd⟩

theorem cutF {σ : Type} {prog : Program} {w : World} {A : Around} {E : Value → Shared → Prop} {Q : Flow → Shared → Prop} {s : Shared} {env : Env} {g : Heap} {L : Addr} {m : Str → Option Value} {news : List (Addr × Obj)} {st : Stmt} {rest : List Stmt}
    (Led : σ → List (Addr × Obj)) (ps : σ → List (Str × Value)) (stored : List Str) (D : σ → Prop)
    (_F : Fr g L s.heap m) (_N : News g L s.heap news)
    (h1 : wpAny (model prog w) A (exec st env) (fun f s₂ => match f with | .next => Stop (Hand g L s Led ps stored m D s₂) | f => Q f s₂) E s)
    (h2 : ∀ (c : σ) (u : Str → Option Value) h tk, D c → Fr g L h (kstB (fun z => if stored.contains z then u z else m z) (ps c)) → News g L h (Led c) →
      wpAny (model prog w) A (execs rest env) Q E { s with heap := h, toks := tk }) :
    wpAny (model prog w) A (execs (st :: rest) env) Q E s := by
  refine wpAny_execs_cons (wpAny_mono h1 (fun f s₂ p => ?_) fun _ _ e => e)
  cases f with
  | next =>
    obtain ⟨c, h, tk, m', nx, rfl, F, N, hn, hk, hr, hd⟩ := p
    exact h2 c m' h tk hd (ksw_fr hk hr F) fun p hp => N p (hn p hp)
  | brk => exact p
  | cont => exact p
  | ret v => exact p

/-- the end of a called def, at which the walk stands still -/
noncomputable def RetP (Q : Value → Shared → Prop) (v : Value) (s : Shared) : Prop := Q v s

theorem code_pure {prog : Program} {w : World} {A A₀ : Around} {s : Shared} {K : Frag} {L : Addr} {h₀ base : Heap} {m mg mb : Str → Option Value} {p : Program} {loose : List Str} {mean : ExcName → Option Value}
    {env : Env} {outer : List Env} {Q E : Value → Shared → Prop} {name qual : Str} {params : Arguments} {body : List Stmt} {scope : Scope} {dV kV doc pm cdv ct oc : Value} {an od : Option Addr} {osl : Array (Option Value)} {f : Addr} {args : Args} {binds : List (Str × Value)}
    (B : Below A₀ base outer h₀) (F : Fr h₀ L s.heap m) (X₀ : K.In h₀) (T : Top p loose mean mg mb h₀) (hA : A.frames = some (env :: outer)) (hf : env.frame = some L) (hke : env.scope.kind = .function)
    (ho : K.lookup f = some ⟨oc, od, .func (fnOf name qual params body scope dV kV doc pm an cdv ct), osl⟩) (hcd : codeIn K cdv qual = true) (hroom : A.depth < recursionLimit)
    (hbind : BindsTo s (fnOf name qual params body scope dV kV doc pm an cdv ct) args binds) (hloc : ∀ y ∈ binds, scope.names.lookup y.1 = some .local)
    (h : ∀ g L' h₁, g = s.heap → Fr g L' h₁ (fun y => binds.reverse.lookup y) → News g L' h₁ [] → Below A base (env :: outer) g → K.In g → Top p loose mean mg mb g →
      wpAny (model prog w) (A.deeper (envOf qual scope L' f cdv)) (execs body (envOf qual scope L' f cdv))
        (fun fl s' => RetP Q (match fl with | .ret v => v | _ => .none) s')
        (fun e s' => wpAny (model prog w) (A.deeper (envOf qual scope L' f cdv)) (leaving (envOf qual scope L' f cdv) e) (fun _ s'' => E e s'') (fun e' s'' => E e' s'') s')
        { s with heap := h₁, toks := s.toks + binds.length })
    (hco : scope.isCoroutine = false) (hgen : scope.isGenerator = false) (hk : scope.kind = .function)
    (hcell : ∀ x ∈ scope.names, x.2 ≠ .cell) : codeAny (model prog w) A (.call (.ref f) args) (fun r s' => match r with | .ok (.ret v) => Q v s' | .ok _ => False | .error e => E e s') s := by
  have X : K.In s.heap := X₀.keeps F.keep
  obtain ⟨FG, BG, st, lv⟩ := groundX (R := fun _ _ => True) B F News.nil hA hf hke
  refine codeAny_call_def (fd := fnOf name qual params body scope dV kV doc pm an cdv ct) (body := body) (binds := binds) hroom (X _ _ ho) rfl (T.nolimit.keeps F.keep) (codeRec_of X hcd) rfl hbind hcell hloc (fun h₁ hns hk₁ => ?_) hco hgen hk
  exact h s.heap s.heap.objs.size h₁ rfl ⟨hns, hk₁, Nat.le_refl _⟩ News.nil BG X (T.keeps F.keep)

/-- a def that changes nothing that stood before its call -/
noncomputable def Pure (prog : Program) (w : World) (K : Frag) (p : Program) (loose : List Str) (mean : ExcName → Option Value) (mg mb : Str → Option Value) (f : Addr) (dd uu : Nat) (vs : List Value) (Pre : Heap → Prop) (Post : Heap → Value → Heap → Prop) : Prop :=
  ∀ (dp un : Nat) (gd : Option (List Code)) (cn : Str) (cs : Scope) (a : Addr) (ccd : Value) (cl : List (Str × Addr)) (outer : List Env) (A₀ : Around) (base h₀ : Heap) (L : Addr) (m : Str → Option Value) (s : Shared) (Q E : Value → Shared → Prop),
    Below A₀ base outer h₀ → Fr h₀ L s.heap m → K.In h₀ → Top p loose mean mg mb h₀ → cs.kind = .function → dp + dd < recursionLimit → un + uu < cLine → Pre s.heap →
    (∀ v h' tk', s.heap.StaysIn h' → Post s.heap v h' → Q v { s with heap := h', toks := tk' }) →
    wpAny (model prog w) (ktrTop dp un gd cn cs L a ccd cl outer) (call (.ref f) vs) Q E s

theorem Fr.stays {h₀ h h' : Heap} {L : Addr} {m : Str → Option Value} (F : Fr h₀ L h m) (k : h.StaysIn h') : Fr h₀ L h' m := by
  obtain ⟨oL, a1, a2, hL, a3⟩ := F.ns
  exact ⟨⟨oL, a1, a2, k _ _ hL, a3⟩, fun b o e => k _ _ (F.keep b o e), F.above⟩
theorem News.stays {h₀ h h' : Heap} {L : Addr} {news : List (Addr × Obj)} (N : News h₀ L h news) (k : h.StaysIn h') : News h₀ L h' news := fun p hp => ⟨k _ _ (N p hp).1, (N p hp).2⟩
theorem News.add {h₀ h h' : Heap} {L a : Addr} {m : Str → Option Value} {o : Obj} {news : List (Addr × Obj)} (F : Fr h₀ L h m) (N : News h₀ L h news) (k : h.StaysIn h') (ha : h.objs.size ≤ a) (ho : h'.get? a = some o) : News h₀ L h' ((a, o) :: news) := fun p hp => by
  rcases List.mem_cons.mp hp with rfl | hp
  · refine ⟨ho, fun e => ?_, ?_⟩
    · have e' : a = L := e
      subst e'
      exact Nat.lt_irrefl _ (Nat.lt_of_lt_of_le F.ns.lt ha)
    · cases q : h₀.get? a with
      | none => rfl
      | some o' => exact absurd (Nat.lt_of_lt_of_le (Heap.lt_size (F.keep _ _ q)) ha) (Nat.lt_irrefl _)
  · exact ⟨k _ _ (N p hp).1, (N p hp).2⟩
theorem News.lt {h₀ h : Heap} {L a : Addr} {news : List (Addr × Obj)} (N : News h₀ L h news) (ha : h.objs.size ≤ a) : ∀ p ∈ news, p.1 < a := fun p hp => Nat.lt_of_lt_of_le (Heap.lt_size (N p hp).1) ha

theorem Pure.call {prog : Program} {w : World} {K : Frag} {p : Program} {loose : List Str} {mean : ExcName → Option Value} {mg mb : Str → Option Value} {f : Addr} {dd uu : Nat} {vs : List Value} {Pre : Heap → Prop} {Post : Heap → Value → Heap → Prop}
    (C : Pure prog w K p loose mean mg mb f dd uu vs Pre Post) {dp un : Nat} {gd : Option (List Code)} {cn : Str} {cs : Scope} {a : Addr} {ccd : Value} {cl : List (Str × Addr)} {outer : List Env} {A₀ : Around} {base h₀ : Heap} {L : Addr} {m : Str → Option Value} {s : Shared} {Q E : Value → Shared → Prop} {news : List (Addr × Obj)}
    (B : Below A₀ base outer h₀) (F : Fr h₀ L s.heap m) (X : K.In h₀) (T : Top p loose mean mg mb h₀) (N : News h₀ L s.heap news) (hk : cs.kind = .function) (hd : dp + dd < recursionLimit) (hu : un + uu < cLine) (hp : Pre s.heap)
    (ret : ∀ v h' tk', s.heap.StaysIn h' → Post s.heap v h' → Fr h₀ L h' m → News h₀ L h' news → Q v { s with heap := h', toks := tk' }) :
    wpAny (model prog w) (ktrTop dp un gd cn cs L a ccd cl outer) (PySem.call (.ref f) vs) Q E s :=
  C dp un gd cn cs a ccd cl outer A₀ base h₀ L m s Q E B F X T hk hd hu hp fun v h' tk' k q => ret v h' tk' k q (Fr.stays F k) (News.stays N k)

/-- an answer by value -/
noncomputable def IsV (mk : Tok → Value) : Heap → Value → Heap → Prop := fun _ v _ => ∃ t, v = mk t

theorem stays_of {g h' : Heap} {L : Addr} {m : Str → Option Value} {s : Shared} (hg : g = s.heap) (F : Fr g L h' m) : s.heap.StaysIn h' := hg ▸ F.keep

theorem isV_int {n n' : Int} {t : Tok} {h h' : Heap} (e : n = n') : IsV (fun t => .int n' t) h (.int n t) h' := ⟨t, by rw [e]⟩
theorem isV_str {n n' : Str} {t : Tok} {h h' : Heap} (e : n = n') : IsV (fun t => .str n' t) h (.str n t) h' := ⟨t, by rw [e]⟩
theorem isV_bool {n n' : Bool} {h h' : Heap} (e : n = n') : IsV (fun _ => .bool n') h (.bool n) h' := ⟨0, by rw [e]⟩

/-- an answer that is a new object -/
noncomputable def NewObj (P : Obj → Prop) : Heap → Value → Heap → Prop := fun h v h' => ∃ a o, v = .ref a ∧ h.get? a = none ∧ h'.get? a = some o ∧ P o
theorem NewObj.of {P : Obj → Prop} {g h' : Heap} {s : Shared} {L a : Addr} {o : Obj} {news : List (Addr × Obj)} (hg : g = s.heap) (N : News g L h' news) (hm : (a, o) ∈ news) (hp : P o) : NewObj P s.heap (.ref a) h' :=
  ⟨a, o, rfl, hg ▸ (N _ hm).2.2, (N _ hm).1, hp⟩
theorem News.addN {h₀ h h' : Heap} {L a : Addr} {m : Str → Option Value} {o : Obj} {news : List (Addr × Obj)} (F : Fr h₀ L h m) (N : News h₀ L h news) (k : h.StaysIn h') (ha : h.get? a = none) (ho : h'.get? a = some o) : News h₀ L h' ((a, o) :: news) := fun p hp => by
  rcases List.mem_cons.mp hp with rfl | hp
  · refine ⟨ho, fun e => ?_, ?_⟩
    · have e' : a = L := e
      subst e'
      obtain ⟨oL, _, _, hL, _⟩ := F.ns
      rw [ha] at hL; cases hL
    · cases q : h₀.get? a with
      | none => rfl
      | some o' => have := F.keep _ _ q; rw [ha] at this; cases this
  · exact ⟨k _ _ (N p hp).1, (N p hp).2⟩
theorem News.neN {h₀ h : Heap} {L a : Addr} {news : List (Addr × Obj)} (N : News h₀ L h news) (ha : h.get? a = none) : ∀ p ∈ news, p.1 ≠ a := fun p hp e => by
  have := (N p hp).1
  rw [e, ha] at this; cases this

theorem code_pureC {prog : Program} {w : World} {A A₀ : Around} {s : Shared} {K : Frag} {L : Addr} {h₀ base : Heap} {m mg mb : Str → Option Value} {p : Program} {loose : List Str} {mean : ExcName → Option Value}
    {env : Env} {outer : List Env} {Q E : Value → Shared → Prop} {name qual : Str} {params : Arguments} {body : List Stmt} {scope : Scope} {dV kV doc pm cdv ct oc : Value} {an od : Option Addr} {osl : Array (Option Value)} {f : Addr} {args : Args} {binds : List (Str × Value)}
    (B : Below A₀ base outer h₀) (F : Fr h₀ L s.heap m) (X₀ : K.In h₀) (T : Top p loose mean mg mb h₀) (hA : A.frames = some (env :: outer)) (hf : env.frame = some L) (hke : env.scope.kind = .function)
    (ho : K.lookup f = some ⟨oc, od, .func (fnOf name qual params body scope dV kV doc pm an cdv ct), osl⟩) (hcd : codeIn K cdv qual = true) (hroom : A.depth < recursionLimit)
    (hbind : BindsTo s (fnOf name qual params body scope dV kV doc pm an cdv ct) args binds) (hkind : (binds.all fun y => scope.names.lookup y.1 == some .local || scope.names.lookup y.1 == some .cell) = true)
    (hnd : ((cellsFrom 0 scope.names []).map (·.1)).Nodup)
    (h : ∀ g L' h₁ tk cells, g = s.heap → Fr g L' h₁ (bindL (envOfC qual scope L' f cdv).kindOf binds fun _ => none) → News g L' h₁ (cells ++ []) →
      CellsAre (bindC (envOfC qual scope L' f cdv).kindOf binds fun _ => none) (cellsFrom (L' + 1) scope.names []) cells → Below A base (env :: outer) g → K.In g → Top p loose mean mg mb g → g.objs.size = L' →
      wpAny (model prog w) (A.deeper (envOfC qual scope L' f cdv)) (execs body (envOfC qual scope L' f cdv))
        (fun fl s' => RetP Q (match fl with | .ret v => v | _ => .none) s')
        (fun e s' => wpAny (model prog w) (A.deeper (envOfC qual scope L' f cdv)) (leaving (envOfC qual scope L' f cdv) e) (fun _ s'' => E e s'') (fun e' s'' => E e' s'') s')
        { s with heap := h₁, toks := tk })
    (hco : scope.isCoroutine = false) (hgen : scope.isGenerator = false) (hk : scope.kind = .function) :
    codeAny (model prog w) A (.call (.ref f) args) (fun r s' => match r with | .ok (.ret v) => Q v s' | .ok _ => False | .error e => E e s') s := by
  have X : K.In s.heap := X₀.keeps F.keep
  obtain ⟨_, BG, _, _⟩ := groundX (R := fun _ _ => True) B F News.nil hA hf hke
  refine codeAny_call_function hroom (X _ _ ho) rfl hco hgen rfl (codeRec_of X hcd) (hbind _ _ _ _ ?_)
  refine wpAny_newFunctionEnv_cells hk (kindsX hkind _) fun env' he s' x => ?_
  subst he
  refine ⟨(T.nolimit.keeps F.keep).keeps x.toInCall.keep, codeAny_func ?_⟩
  obtain ⟨h₁, tk, rfl, _⟩ := x.done
  obtain ⟨cells, NC, Y⟩ := Cl.news (h₀ := s.heap) (Nat.le_refl _) fun n c hm => ⟨x.cell n c (lookup_of_mem_nodup (cellsFrom_names scope.names 0 (s.heap.objs.size + 1) [] [] rfl ▸ hnd) hm), x.above n c hm⟩
  exact h s.heap s.heap.objs.size h₁ tk cells rfl ⟨x.toInCall.ns, x.toInCall.keep, Nat.le_refl _⟩ (by rw [List.append_nil]; exact NC) Y BG X (T.keeps F.keep) rfl

/-- all but D stands as it stood -/
noncomputable def StaysBut (D : Addr) (h h' : Heap) : Prop := ∀ b o, b ≠ D → h.get? b = some o → h'.get? b = some o
theorem stays_but {g h' : Heap} {L D : Addr} {m : Str → Option Value} {s : Shared} (hg : g = s.heap.hide D) (F : Fr g L h' m) : StaysBut D s.heap h' := fun b o hb e =>
  F.keep b o (by rw [hg]; exact (Heap.hide_ne _ hb).trans e)

theorem code_mut {prog : Program} {w : World} {A A₀ : Around} {s : Shared} {K : Frag} {L : Addr} {h₀ base : Heap} {m mg mb : Str → Option Value} {p : Program} {loose : List Str} {mean : ExcName → Option Value}
    {env : Env} {outer : List Env} {Q E : Value → Shared → Prop} {name qual : Str} {params : Arguments} {body : List Stmt} {scope : Scope} {cl : List (Str × Addr)} {dV kV doc pm cdv ct : Value} {an : Option Addr} {f D : Addr} {oD fo : Obj} {args : Args} {binds : List (Str × Value)}
    (B : Below A₀ base outer h₀) (F : Fr h₀ L s.heap m) (X₀ : K.In h₀) (T : Top p loose mean mg mb h₀) (hA : A.frames = some (env :: outer)) (hf : env.frame = some L) (hke : env.scope.kind = .function)
    (ho : s.heap.get? f = some fo) (hd : fo.data = .func (fnX name qual params body scope cl dV kV doc pm an cdv ct)) (hcd : s.heap.CodeRec cdv qual) (hroom : A.depth < recursionLimit)
    (hD : s.heap.get? D = some oD) (hD0 : h₀.get? D = none) (hDL : D ≠ L)
    (hbind : BindsTo s (fnX name qual params body scope cl dV kV doc pm an cdv ct) args binds) (hloc : ∀ y ∈ binds, scope.names.lookup y.1 = some .local)
    (h : ∀ g L' h₁, g = s.heap.hide D → Fr g L' h₁ (fun y => binds.reverse.lookup y) → News g L' h₁ [(D, oD)] → Below A base (env :: outer) g → K.In g → Top p loose mean mg mb g →
      wpAny (model prog w) (A.deeper (envX qual scope L' f cdv cl)) (execs body (envX qual scope L' f cdv cl))
        (fun fl s' => RetP Q (match fl with | .ret v => v | _ => .none) s')
        (fun e s' => wpAny (model prog w) (A.deeper (envX qual scope L' f cdv cl)) (leaving (envX qual scope L' f cdv cl) e) (fun _ s'' => E e s'') (fun e' s'' => E e' s'') s')
        { s with heap := h₁, toks := s.toks + binds.length })
    (hcell : ∀ x ∈ scope.names, x.2 ≠ .cell) (hco : scope.isCoroutine = false) (hgen : scope.isGenerator = false) (hk : scope.kind = .function) :
    codeAny (model prog w) A (.call (.ref f) args) (fun r s' => match r with | .ok (.ret v) => Q v s' | .ok _ => False | .error e => E e s') s := by
  have N : News h₀ L s.heap [(D, oD)] := fun q hq => by
    obtain rfl := List.mem_singleton.mp hq
    exact ⟨hD, hDL, hD0⟩
  obtain ⟨FG, BG, st, lv⟩ := groundX (R := fun _ _ => True) B F N hA hf hke
  refine codeAny_call_def (fd := fnX name qual params body scope cl dV kV doc pm an cdv ct) (body := body) (binds := binds) hroom ho hd (T.nolimit.keeps F.keep) hcd rfl hbind hcell hloc (fun h₁ hns hk₁ => ?_) hco hgen hk
  refine h (s.heap.hide D) s.heap.objs.size h₁ rfl ⟨hns, fun b o e => hk₁ b o (Heap.of_hide e), Nat.le_of_eq (Heap.hide_size _ _)⟩ (fun q hq => ?_) BG (X₀.keeps st) (T.keeps st)
  obtain rfl := List.mem_singleton.mp hq
  exact ⟨hk₁ _ _ hD, Nat.ne_of_lt (Heap.lt_size hD), Heap.hide_self _ _⟩

theorem nameX_B {M : Model} {A : Around} {E : Value → Shared → Prop} {s : Shared} {h₀ : Heap} {L a c : Addr} {m : Str → Option Value} {cn : Str} {cs : Scope} {ccd : Value} {cl : List (Str × Addr)} {x : Str} {pos : Pos} {o : Obj} {v : Value} {Q : Value → Shared → Prop}
    (F : Fr h₀ L s.heap m) (hc : cl.lookup x = some c) (hv : h₀.get? c = some o) (hd : o.data = .cell (some v)) (h : Q v s)
    (hk : cs.kind = .function) (hx : (envX cn cs L a ccd cl).kindOf x = some .free) (hb : (x == ("__debug__" : Str)) = false := by decide) (hn : (x == ("__classdict__" : Str)) = false := by decide) :
    wpAny M A (eval (.Name x pos) (envX cn cs L a ccd cl)) Q E s := wpAny_Name (wpAny_loadName_free hk hx hc ⟨o, F.keep _ _ hv, hd⟩ h hn) hb

theorem code_pureX {prog : Program} {w : World} {A A₀ : Around} {s : Shared} {K : Frag} {L : Addr} {h₀ base : Heap} {m mg mb : Str → Option Value} {p : Program} {loose : List Str} {mean : ExcName → Option Value}
    {env : Env} {outer : List Env} {Q E : Value → Shared → Prop} {name qual : Str} {params : Arguments} {body : List Stmt} {scope : Scope} {cl : List (Str × Addr)} {dV kV doc pm cdv ct : Value} {an : Option Addr} {f : Addr} {fo : Obj} {args : Args} {binds : List (Str × Value)}
    (B : Below A₀ base outer h₀) (F : Fr h₀ L s.heap m) (X₀ : K.In h₀) (T : Top p loose mean mg mb h₀) (hA : A.frames = some (env :: outer)) (hf : env.frame = some L) (hke : env.scope.kind = .function)
    (ho : s.heap.get? f = some fo) (hd : fo.data = .func (fnX name qual params body scope cl dV kV doc pm an cdv ct)) (hcd : s.heap.CodeRec cdv qual) (hroom : A.depth < recursionLimit)
    (hbind : BindsTo s (fnX name qual params body scope cl dV kV doc pm an cdv ct) args binds) (hloc : ∀ y ∈ binds, scope.names.lookup y.1 = some .local)
    (h : ∀ g L' h₁, g = s.heap → Fr g L' h₁ (fun y => binds.reverse.lookup y) → News g L' h₁ [] → Below A base (env :: outer) g → K.In g → Top p loose mean mg mb g →
      wpAny (model prog w) (A.deeper (envX qual scope L' f cdv cl)) (execs body (envX qual scope L' f cdv cl))
        (fun fl s' => RetP Q (match fl with | .ret v => v | _ => .none) s')
        (fun e s' => wpAny (model prog w) (A.deeper (envX qual scope L' f cdv cl)) (leaving (envX qual scope L' f cdv cl) e) (fun _ s'' => E e s'') (fun e' s'' => E e' s'') s')
        { s with heap := h₁, toks := s.toks + binds.length })
    (hcell : ∀ x ∈ scope.names, x.2 ≠ .cell) (hco : scope.isCoroutine = false) (hgen : scope.isGenerator = false) (hk : scope.kind = .function) :
    codeAny (model prog w) A (.call (.ref f) args) (fun r s' => match r with | .ok (.ret v) => Q v s' | .ok _ => False | .error e => E e s') s := by
  obtain ⟨_, BG, _, _⟩ := groundX (R := fun _ _ => True) B F News.nil hA hf hke
  refine codeAny_call_def (fd := fnX name qual params body scope cl dV kV doc pm an cdv ct) (body := body) (binds := binds) hroom ho hd (T.nolimit.keeps F.keep) hcd rfl hbind hcell hloc (fun h₁ hns hk₁ => ?_) hco hgen hk
  exact h s.heap s.heap.objs.size h₁ rfl ⟨hns, hk₁, Nat.le_refl _⟩ News.nil BG (X₀.keeps F.keep) (T.keeps F.keep)
end Mine

-- P0
open PySem PySem.W PyProof.Rows PyProof
set_option Elab.async false
set_option maxRecDepth 100000
namespace Mine
noncomputable abbrev tl (x : Str) : List Nat := x.cps.toList
theorem tl_len (x : Str) : (tl x).length = x.length := by simp [tl, Str.length]
theorem tl_ext {x y : Str} (h : tl x = tl y) : x = y := by
  obtain ⟨a⟩ := x; obtain ⟨b⟩ := y
  simp only [tl] at h; exact congrArg Str.mk (Array.toList_inj.mp h)

theorem sl_from {x : Str} {i : Int} (h0 : 0 ≤ i) (h1 : i ≤ x.length) : tl (Txt.slice x (some i) none) = (tl x).drop i.toNat := by
  rw [slice_from_eq h0 h1 rfl]
  simp only [tl]
  rw [List.take_of_length_le]
  simp only [List.length_drop, Array.length_toList]
  simp only [Str.length] at h1 ⊢
  omega
theorem sl_nn (x : Str) : Txt.slice x none none = x := by
  unfold Txt.slice
  split
  · rfl
  · rename_i h
    refine absurd ?_ h
    unfold Builtin.Str.strSliceIndices sliceRange
    simp
    split <;> omega
theorem sl_neg {x : Str} {k : Int} (h0 : 0 < k) (h1 : k ≤ x.length) : Txt.slice x none (some (-k)) = Txt.slice x none (some (x.length - k)) := by
  have e : Builtin.Str.strSliceIndices none (some (-k)) 1 x.length = Builtin.Str.strSliceIndices none (some (x.length - k)) 1 x.length := by
    have h2 : -k < 0 := by omega
    have h3 : ¬ ((x.length : Int) - k < 0) := by omega
    have h4 : -k + (x.length : Int) = x.length - k := by omega
    simp only [Builtin.Str.strSliceIndices, h2, h3, h4, if_true, if_false]
  unfold Txt.slice
  rw [e]
theorem sl_to {x : Str} {j : Int} (h0 : 0 ≤ j) (h1 : j ≤ x.length) : tl (Txt.slice x none (some j)) = (tl x).take j.toNat := by
  have := beq_iff_eq.mp (slice_closes_to (x := x) (j := j) ⟨h0, by simpa [Str.length] using h1⟩)
  rw [this]
  simp [tl]
theorem sl_to_neg {x : Str} {k : Int} (h0 : 0 < k) (h1 : k ≤ x.length) : tl (Txt.slice x none (some (-k))) = (tl x).take (x.length - k.toNat) := by
  rw [sl_neg h0 h1, sl_to (by omega) (by omega)]
  congr 1; omega
theorem it_eq {x : Str} {i : Int} (h0 : 0 ≤ i) (h1 : i < x.length) : Txt.item x i = ⟨#[(tl x).getD i.toNat 0]⟩ := by
  rw [item_meets ⟨h0, h1⟩]
  simp [tl, Array.getD_eq_getD_getElem?, List.getD_eq_getElem?_getD]
theorem it_neg {x : Str} {i : Int} (h0 : i < 0) (h1 : -(x.length : Int) ≤ i) : Txt.item x i = ⟨#[(tl x).getD (i + x.length).toNat 0]⟩ := by
  have := beq_iff_eq.mp (item_closes_neg h0 h1 rfl)
  rw [this]
  simp [tl, Array.getD_eq_getD_getElem?, List.getD_eq_getElem?_getD]

/-- the length of the common beginning -/
noncomputable def cp : List Nat → List Nat → Nat
  | a :: r, b :: q => if a = b then cp r q + 1 else 0
  | _, _ => 0
theorem cp_le_left : ∀ a b, cp a b ≤ a.length
  | [], _ => Nat.zero_le _
  | _ :: _, [] => Nat.zero_le _
  | a :: r, b :: q => by
    unfold cp; split
    · have := cp_le_left r q; simp only [List.length_cons]; omega
    · exact Nat.zero_le _
theorem cp_comm : ∀ a b, cp a b = cp b a
  | [], [] => rfl
  | [], _ :: _ => rfl
  | _ :: _, [] => rfl
  | a :: r, b :: q => by
    unfold cp; rw [cp_comm r q]
    by_cases h : a = b
    · subst h; rfl
    · rw [if_neg h, if_neg (Ne.symm h)]
theorem cp_le_right (a b : List Nat) : cp a b ≤ b.length := cp_comm a b ▸ cp_le_left b a
theorem one_inj {a b : Nat} (h : (⟨#[a]⟩ : Str) = ⟨#[b]⟩) : a = b := by simpa using h
theorem drop_cons {X : List Nat} {i : Nat} (h : i < X.length) : X.drop i = X.getD i 0 :: X.drop (i + 1) := by
  rw [List.drop_eq_getElem_cons h]; congr 1; simp [h]
theorem cp_turn {X Y : List Nat} {i n : Nat} (hx : i < X.length) (hy : i < Y.length) (e : X.getD i 0 = Y.getD i 0) (h : i + cp (X.drop i) (Y.drop i) = n) : i + 1 + cp (X.drop (i + 1)) (Y.drop (i + 1)) = n := by
  rw [drop_cons hx, drop_cons hy] at h
  unfold cp at h; rw [if_pos e] at h; omega
theorem cp_end {X Y : List Nat} {i n : Nat} (hx : i < X.length) (hy : i < Y.length) (e : X.getD i 0 ≠ Y.getD i 0) (h : i + cp (X.drop i) (Y.drop i) = n) : i = n := by
  rw [drop_cons hx, drop_cons hy] at h
  unfold cp at h; rw [if_neg e] at h; omega
theorem cp_endx {X Y : List Nat} {i n : Nat} (hx : i = X.length) (h : i + cp (X.drop i) (Y.drop i) = n) : i = n := by
  rw [hx, List.drop_length] at h; simp only [cp] at h; omega
theorem cp_endy {X Y : List Nat} {i n : Nat} (hy : i = Y.length) (h : i + cp (X.drop i) (Y.drop i) = n) : i = n := by
  rw [cp_comm] at h; exact cp_endx hy h
theorem getD_rev {X : List Nat} {i : Nat} (h : i < X.length) : X.reverse.getD i 0 = X.getD (X.length - 1 - i) 0 := by
  simp [List.getD_eq_getElem?_getD, List.getElem?_reverse h]

/-- the word of the first loop -/
noncomputable def PreW (x y : Str) (i : Int) : Prop := 0 ≤ i ∧ i ≤ x.length ∧ i ≤ y.length ∧ i.toNat + cp ((tl x).drop i.toNat) ((tl y).drop i.toNat) = cp (tl x) (tl y)
theorem PreW.start (x y : Str) : PreW x y 0 := ⟨by omega, by omega, by omega, by simp⟩
theorem PreW.turn {x y : Str} {i : Int} (h : PreW x y i) (hx : i < x.length) (hy : i < y.length) (e : (Txt.item x i == Txt.item y i) = true) : PreW x y (i + 1) := by
  obtain ⟨h0, h1, h2, h3⟩ := h
  rw [beq_iff_eq, it_eq h0 hx, it_eq h0 hy] at e
  refine ⟨by omega, by omega, by omega, ?_⟩
  rw [show (i + 1).toNat = i.toNat + 1 by omega]
  exact cp_turn (by rw [tl_len]; omega) (by rw [tl_len]; omega) (one_inj e) h3
theorem PreW.stop {x y : Str} {i : Int} (h : PreW x y i) (hx : i < x.length) (hy : i < y.length) (e : (Txt.item x i == Txt.item y i) = false) : i = (cp (tl x) (tl y) : Nat) := by
  obtain ⟨h0, h1, h2, h3⟩ := h
  rw [beq_eq_false_iff_ne, it_eq h0 hx, it_eq h0 hy] at e
  have := cp_end (by rw [tl_len]; omega) (by rw [tl_len]; omega) (fun q => e (by rw [q])) h3
  omega
theorem PreW.stopx {x y : Str} {i : Int} (h : PreW x y i) (hx : i = x.length) : i = (cp (tl x) (tl y) : Nat) := by
  obtain ⟨h0, h1, h2, h3⟩ := h
  have := cp_endx (by rw [tl_len]; omega) h3
  omega
theorem PreW.stopy {x y : Str} {i : Int} (h : PreW x y i) (hy : i = y.length) : i = (cp (tl x) (tl y) : Nat) := by
  obtain ⟨h0, h1, h2, h3⟩ := h
  have := cp_endy (by rw [tl_len]; omega) h3
  omega

/-- the word of the second loop: post is -k -/
noncomputable def SufW (x y : Str) (i : Int) : Prop := i ≤ 0 ∧ -i ≤ x.length ∧ -i ≤ y.length ∧ (-i).toNat + cp ((tl x).reverse.drop (-i).toNat) ((tl y).reverse.drop (-i).toNat) = cp (tl x).reverse (tl y).reverse
theorem SufW.start (x y : Str) : SufW x y 0 := ⟨by omega, by omega, by omega, by simp⟩
theorem suf_item {x : Str} {i : Int} (h0 : i ≤ 0) (hx : -i < x.length) : Txt.item x (i - 1) = ⟨#[(tl x).reverse.getD (-i).toNat 0]⟩ := by
  rw [it_neg (by omega) (by omega), getD_rev (by rw [tl_len]; omega), tl_len]
  congr 4; omega
theorem SufW.turn {x y : Str} {i : Int} (h : SufW x y i) (hx : -i < x.length) (hy : -i < y.length) (e : (Txt.item x (i - 1) == Txt.item y (i - 1)) = true) : SufW x y (i - 1) := by
  obtain ⟨h0, h1, h2, h3⟩ := h
  rw [beq_iff_eq, suf_item h0 hx, suf_item h0 hy] at e
  refine ⟨by omega, by omega, by omega, ?_⟩
  rw [show (-(i - 1)).toNat = (-i).toNat + 1 by omega]
  exact cp_turn (by rw [List.length_reverse, tl_len]; omega) (by rw [List.length_reverse, tl_len]; omega) (one_inj e) h3
theorem SufW.stop {x y : Str} {i : Int} (h : SufW x y i) (hx : -i < x.length) (hy : -i < y.length) (e : (Txt.item x (i - 1) == Txt.item y (i - 1)) = false) : -i = (cp (tl x).reverse (tl y).reverse : Nat) := by
  obtain ⟨h0, h1, h2, h3⟩ := h
  rw [beq_eq_false_iff_ne, suf_item h0 hx, suf_item h0 hy] at e
  have := cp_end (by rw [List.length_reverse, tl_len]; omega) (by rw [List.length_reverse, tl_len]; omega) (fun q => e (by rw [q])) h3
  omega
theorem SufW.stopx {x y : Str} {i : Int} (h : SufW x y i) (hx : -i = x.length) : -i = (cp (tl x).reverse (tl y).reverse : Nat) := by
  obtain ⟨h0, h1, h2, h3⟩ := h
  have := cp_endx (by rw [List.length_reverse, tl_len]; omega) h3
  omega
theorem SufW.stopy {x y : Str} {i : Int} (h : SufW x y i) (hy : -i = y.length) : -i = (cp (tl x).reverse (tl y).reverse : Nat) := by
  obtain ⟨h0, h1, h2, h3⟩ := h
  have := cp_endy (by rw [List.length_reverse, tl_len]; omega) h3
  omega

theorem slen_neg {x : Str} {i : Int} (h0 : i ≤ 0) (h1 : -i ≤ x.length) : i ≠ 0 → ((Txt.slice x none (some i)).length : Int) = x.length + i := fun hn => by
  have := sl_to_neg (x := x) (k := -i) (by omega) (by omega)
  rw [Int.neg_neg] at this
  have e := congrArg List.length this
  rw [tl_len, List.length_take, tl_len] at e
  omega

theorem slice_all {prog : Program} {w : World} {A : Around} {E : Value → Shared → Prop} {s : Shared} {Q : Value → Shared → Prop} {h₀ : Heap} {L : Addr} {m : Str → Option Value} {news : List (Addr × Obj)} {x : Str} {t : Tok} {value slice : Expr}
    (hF : Fr h₀ L s.heap m) (hN : News h₀ L s.heap news) (h : ∀ h' t' k, Fr h₀ L h' m → News h₀ L h' news → Q (.str x t') { s with heap := h', toks := k })
    (hs : subscripted slice false (.str x t) (.ref s.heap.objs.size) = operate [.ref s.heap.objs.size, .str x t] (getItem (.str x t) (.ref s.heap.objs.size)))
    (ht : ∀ r, letTemporaryGo value (.str x t) r = pure ()) (hsz : x.length ≤ sizeLine) :
    wpAny (model prog w) A (subscriptTail value slice (.str x t) (.ref s.heap.objs.size)) Q E { s with heap := s.heap.push { cls := .type "slice", data := .fields #[.none, .none, .none] } } :=
  slice_strN_nn_len hF hN (fun h' t' k F N _ => by rw [sl_nn]; exact h h' t' k F N) hs ht hsz
theorem slice_bo {prog : Program} {w : World} {A : Around} {E : Value → Shared → Prop} {g : Heap} {gs : Array GenState} {dr : Drawn} {tk : Nat} {os : OsState} {Q : Value → Shared → Prop} {h₀ : Heap} {L : Addr} {m : Str → Option Value} {news : List (Addr × Obj)} {x n : Str} {t : Tok} {o : BoolOp} {es : List PySem.Expr} {p1 p2 p3 : Pos}
    (hF : Fr h₀ L g m) (hN : News h₀ L g news) (hsz : x.length ≤ sizeLine) (h : ∀ h' t' k, Fr h₀ L h' m → News h₀ L h' news → Q (.str x t') ⟨h', gs, dr, k, os⟩) :
    wpAny (model prog w) A (subscriptTail (.Name n p1) (.Slice none (some (.BoolOp o es p2)) none p3) (.str x t) (.ref g.objs.size)) Q E ⟨g.push { cls := .type "slice", data := .fields #[.none, .none, .none] }, gs, dr, tk, os⟩ :=
  slice_all (s := ⟨g, gs, dr, tk, os⟩) hF hN h (by with_unfolding_all rfl) (by intro _; with_unfolding_all rfl) hsz
end Mine

-- P1
open PySem PySem.W PyProof.Rows PyProof
set_option Elab.async false
set_option maxRecDepth 100000
set_option linter.unusedVariables false
namespace Mine
noncomputable def substF (x y : Str) : Int := if x = y then 0 else if Txt.lower x = Txt.lower y then 1 else 2
noncomputable def costN (c d : Nat) : Int := substF ⟨#[c]⟩ ⟨#[d]⟩
/-- min as the model tells it -/
noncomputable abbrev pmin (a b : Int) : Int := if b < a then b else a
noncomputable abbrev DSt := Int × Int × Int × List Int
noncomputable def inStep (c : Nat) (A : List Nat) (st : DSt) (i : Int) : DSt :=
  let d := st.2.2.2.getD i.toNat 0
  let r := pmin (pmin st.2.1 d + 2) (st.1 + costN c (A.getD i.toNat 0))
  (d, r, if r < st.2.2.1 then r else st.2.2.1, st.2.2.2.set i.toNat r)
noncomputable def upto (n : Nat) : List Int := rangeKs 0 n
noncomputable def inAll (c : Nat) (A : List Nat) (d : Int) (row : List Int) : DSt := (upto A.length).foldl (inStep c A) (d, d, 9223372036854775807, row)
noncomputable def outStep (A B : List Nat) (b : Int) (st : Option (Int × List Int)) (i : Int) : Option (Int × List Int) :=
  st.bind fun q => let o := inAll (B.getD i.toNat 0) A (i * 2) q.2; if o.2.2.1 > b then none else some (o.2.1, o.2.2.2)
noncomputable def row0 (n : Nat) : List Int := rangeInts 2 2 n
noncomputable def levCore (A B : List Nat) (b : Int) : Int := match (upto B.length).foldl (outStep A B b) (some (0, row0 A.length)) with
  | none => b + 1
  | some q => q.1
noncomputable def levG (A B : List Nat) (b : Int) : Int :=
  if A = [] ∨ B = [] then 2 * (A.length + B.length)
  else if B.length < A.length then (if (A.length - B.length : Int) * 2 > b then b + 1 else levCore B A b)
  else (if (B.length - A.length : Int) * 2 > b then b + 1 else levCore A B b)
noncomputable def levF (X Y : List Nat) (b : Int) : Int :=
  if X = Y then 0 else
  let p := cp X Y
  let A := X.drop p
  let B := Y.drop p
  let q := cp A.reverse B.reverse
  levG (A.take (A.length - q)) (B.take (B.length - q)) b

theorem it_one {x : Str} {i : Int} (h0 : 0 ≤ i) (h1 : i < x.length) : Txt.item x i = ⟨#[(tl x).getD i.toNat 0]⟩ := it_eq h0 h1
theorem costN_of {x y : Str} {i j : Int} (h0 : 0 ≤ i) (h1 : i < x.length) (h2 : 0 ≤ j) (h3 : j < y.length) : substF (Txt.item x i) (Txt.item y j) = costN ((tl x).getD i.toNat 0) ((tl y).getD j.toNat 0) := by
  rw [it_eq h0 h1, it_eq h2 h3]; rfl
theorem sl_opt {x : Str} {i : Int} {n : Nat} (h0 : i ≤ 0) (h1 : -i ≤ x.length) (hn : -i = (n : Int)) (hi : i ≠ 0) : tl (Txt.slice x none (some i)) = (tl x).take ((tl x).length - n) := by
  have := sl_to_neg (x := x) (k := -i) (by omega) (by omega)
  rw [Int.neg_neg] at this
  rw [this, tl_len]; congr 1; omega
theorem sl_opt0 {x : Str} {i : Int} {n : Nat} (hn : -i = (n : Int)) (hi : i = 0) : tl x = (tl x).take ((tl x).length - n) := by
  have : n = 0 := by omega
  subst this; rw [Nat.sub_zero, List.take_length]
theorem tl_nil {x : Str} (h : (x.length : Int) = 0) : tl x = [] := by
  have := tl_len x
  exact List.eq_nil_of_length_eq_zero (by omega)
theorem tl_ne {x : Str} (h : (x.length : Int) ≠ 0) : tl x ≠ [] := fun q => h (by have := tl_len x; rw [q] at this; simp at this; omega)

theorem ints_step {c : Int} : ∀ (us : List Value) (a : Int) (n : Nat), us.length = n → (∀ j v, us[j]? = some v → ∃ t, v = Value.int (a + (j : Nat) * c) t) → IntsAre us (rangeInts a c n)
  | [], _, _, rfl, _ => IntsAre.nil
  | v :: r, a, _, rfl, h => by
    obtain ⟨t, ht⟩ := h 0 v rfl
    have hv : v = Value.int a t := by rw [ht]; simp
    subst hv
    have e : rangeInts a c (r.length + 1) = a :: rangeInts (a + c) c r.length := by
      unfold rangeInts
      rw [List.range_succ_eq_map, List.map_cons, List.map_map]
      refine congr (congrArg _ (by simp)) (List.map_congr_left fun i _ => ?_)
      simp only [Function.comp, Nat.succ_eq_add_one, Int.natCast_add, Int.add_mul]
      omega
    show IntsAre _ (rangeInts a c (r.length + 1))
    rw [e]
    refine IntsAre.cons _ _ (ints_step r (a + c) r.length rfl fun j v hj => ?_)
    obtain ⟨t', ht'⟩ := h (j + 1) v hj
    refine ⟨t', ht'.trans ?_⟩
    congr 1
    rw [Int.natCast_add, Int.add_mul]; omega
theorem list_rangeC {prog : Program} {w : World} {A : Around} {E : Value → Shared → Prop} {s : Shared} {h₀ : Heap} {L r : Addr} {m : Str → Option Value} {news : List (Addr × Obj)} {a b c : Int} {t₀ u₀ v₀ : Tok} {n : Nat} {Q : Value → Shared → Prop}
    (hh : A.handled = none) (F : Fr h₀ L s.heap m) (N : News h₀ L s.heap news) (hr : IsRange s.heap r a b c t₀ u₀ v₀) (hsmall : Builtin.Range.small a b c = true) (hn : Builtin.Range.rangeSize a b c = (n : Int)) (hz : n ≤ 2 ^ 24)
    (h : ∀ D us c' h' tk, Fr h₀ L h' m → News h₀ L h' ((D, listOf (List.toArray us) c') :: news) → (∀ p ∈ news, p.1 < D) → IntsAre us (rangeInts a c n) → Q (.ref D) { s with heap := h', toks := tk }) :
    wpAny (model prog w) A (call (.type "list") [.ref r]) Q E s := by
  refine call_list_range hh hr hsmall hn hz fun h' tk acc c hk hD hI => ?_
  have hD' : h'.get? s.heap.objs.size = some (listOf (List.toArray acc.toList) c) := by
    rw [Array.toArray_toList]
    exact hD
  exact h _ acc.toList c h' tk (F.keeps hk) (news_pushed F N hk hD' rfl) (fun p hp => Heap.lt_size (N p hp).1) (ints_step _ _ _ (by rw [Array.length_toList]; exact hI.1) fun j v hj => hI.2 j v (by rw [← hj, Array.getElem?_toList]))
theorem size2 {n : Nat} (h : 0 < n) : Builtin.Range.rangeSize 2 (2 * ((n : Int) + 1)) 2 = (n : Int) := by
  unfold Builtin.Range.rangeSize
  rw [if_pos (by decide), if_pos (by omega)]; omega
theorem small2 {n : Nat} (h : 0 < n) (h1 : n ≤ 40) : Builtin.Range.small 2 (2 * ((n : Int) + 1)) 2 = true := by
  have : ∀ k : Fin 41, 0 < k.val → Builtin.Range.small 2 (2 * (((k.val : Nat) : Int) + 1)) 2 = true := by decide +kernel
  exact this ⟨n, by omega⟩ h

theorem levF_eq {x y a2 b2 : Str} {pre : Int} {b : Int} (hxy : (x == y) = false) (h0 : 0 ≤ pre) (h1 : pre ≤ x.length) (h2 : pre ≤ y.length) (h3 : pre = (cp (tl x) (tl y) : Nat))
    (ha : tl a2 = (tl (Txt.slice x (some pre) none)).take ((tl (Txt.slice x (some pre) none)).length - cp (tl (Txt.slice x (some pre) none)).reverse (tl (Txt.slice y (some pre) none)).reverse))
    (hb : tl b2 = (tl (Txt.slice y (some pre) none)).take ((tl (Txt.slice y (some pre) none)).length - cp (tl (Txt.slice x (some pre) none)).reverse (tl (Txt.slice y (some pre) none)).reverse)) :
    levF (tl x) (tl y) b = levG (tl a2) (tl b2) b := by
  rw [ha, hb, sl_from h0 h1, sl_from h0 h2, h3]
  unfold levF
  rw [if_neg fun q => by rw [beq_eq_false_iff_ne] at hxy; exact hxy (tl_ext q)]
  rfl
theorem levF_same {x y : Str} {b : Int} (h : (x == y) = true) : levF (tl x) (tl y) b = 0 := by
  rw [beq_iff_eq.mp h]; unfold levF; rw [if_pos rfl]
theorem levG_nil {x y : Str} {b : Int} (h : (x.length : Int) = 0 ∨ (y.length : Int) = 0) : levG (tl x) (tl y) b = 2 * ((x.length : Int) + y.length) := by
  unfold levG
  rw [if_pos (h.imp tl_nil tl_nil), tl_len, tl_len]
theorem levG_swap {x y : Str} {b : Int} (hx : (x.length : Int) ≠ 0) (hy : (y.length : Int) ≠ 0) (h : (y.length : Int) < x.length) : levG (tl x) (tl y) b = if ((x.length : Int) - y.length) * 2 > b then b + 1 else levCore (tl y) (tl x) b := by
  unfold levG
  rw [if_neg (fun q => q.elim (tl_ne hx) (tl_ne hy)), if_pos (by rw [tl_len, tl_len]; omega), tl_len, tl_len]
theorem levG_stay {x y : Str} {b : Int} (hx : (x.length : Int) ≠ 0) (hy : (y.length : Int) ≠ 0) (h : ¬ (y.length : Int) < x.length) : levG (tl x) (tl y) b = if ((y.length : Int) - x.length) * 2 > b then b + 1 else levCore (tl x) (tl y) b := by
  unfold levG
  rw [if_neg (fun q => q.elim (tl_ne hx) (tl_ne hy)), if_neg (by rw [tl_len, tl_len]; omega), tl_len, tl_len]

theorem rangeKs_succ (n : Nat) : rangeKs 0 (n + 1) = rangeKs 0 n ++ [(n : Int)] := by
  simp [rangeKs, List.range_succ]
/-- the outer word -/
noncomputable def OutW (A B : List Nat) (b : Int) (n : Nat) (pre : List Int) (r : Int) (row : List Int) : Prop :=
  pre = rangeKs 0 pre.length ∧ pre.foldl (outStep A B b) (some (0, row0 n)) = some (r, row)
theorem OutW.start (A B : List Nat) (b : Int) (n : Nat) : OutW A B b n [] 0 (rangeInts 2 2 n) := ⟨rfl, rfl⟩
/-- the inner word -/
noncomputable def InW (A B : List Nat) (b : Int) (n : Nat) (opre : List Int) (k : Int) (pre : List Int) (d r mn : Int) (row : List Int) : Prop :=
  pre = rangeKs 0 pre.length ∧ ∃ q : Int × List Int, OutW A B b n opre q.1 q.2 ∧ pre.foldl (inStep (B.getD k.toNat 0) A) (k * 2, k * 2, 9223372036854775807, q.2) = (d, r, mn, row)
theorem InW.start {A B : List Nat} {b : Int} {n : Nat} {opre : List Int} {k r : Int} {row : List Int} (h : OutW A B b n opre r row) : InW A B b n opre k [] (k * 2) (k * 2) 9223372036854775807 row :=
  ⟨rfl, (r, row), h, rfl⟩
theorem pre_succ {pre : List Int} {i : Int} (h : pre = rangeKs 0 pre.length) (hi : i = 0 + (pre.length : Int)) : pre ++ [i] = rangeKs 0 (pre ++ [i]).length := by
  rw [List.length_append]
  show _ = rangeKs 0 (pre.length + 1)
  rw [rangeKs_succ, ← h, hi, Int.zero_add]
theorem InW.turn {A B : List Nat} {b : Int} {n : Nat} {opre : List Int} {k : Int} {pre : List Int} {d r mn : Int} {row : List Int} {i d' r' mn' : Int} {row' : List Int} (h : InW A B b n opre k pre d r mn row) (hi : i = 0 + (pre.length : Int))
    (hd : d' = row.getD i.toNat 0) (hr : r' = pmin (pmin r d' + 2) (d + costN (B.getD k.toNat 0) (A.getD i.toNat 0))) (hm : mn' = if r' < mn then r' else mn) (hw : row' = row.set i.toNat r') : InW A B b n opre k (pre ++ [i]) d' r' mn' row' := by
  obtain ⟨h0, q, h1, h2⟩ := h
  refine ⟨pre_succ h0 hi, q, h1, ?_⟩
  rw [List.foldl_append, h2, hw, hm, hr, hd]
  rfl
theorem InW.out {A B : List Nat} {b : Int} {n : Nat} {opre : List Int} {k : Int} {d r mn : Int} {row : List Int} {nn : Nat} (h : InW A B b n opre k (rangeKs 0 nn) d r mn row) (hnn : nn = A.length) (hk : k = 0 + (opre.length : Int)) (hm : ¬ b < mn) : OutW A B b n (opre ++ [k]) r row := by
  obtain ⟨_, q, ⟨h0, h1⟩, h2⟩ := h
  refine ⟨pre_succ h0 hk, ?_⟩
  rw [List.foldl_append, h1]
  subst hnn
  show (if (inAll (B.getD k.toNat 0) A (k * 2) q.2).2.2.1 > b then none else some ((inAll (B.getD k.toNat 0) A (k * 2) q.2).2.1, (inAll (B.getD k.toNat 0) A (k * 2) q.2).2.2.2)) = _
  unfold inAll upto
  rw [h2, if_neg (by simpa using hm)]
theorem out_none (A B : List Nat) (b : Int) : ∀ l : List Int, l.foldl (outStep A B b) none = none
  | [] => rfl
  | _ :: r => out_none A B b r
theorem rangeKs_add (m : Nat) : ∀ k, ∃ r, rangeKs 0 (m + k) = rangeKs 0 m ++ r
  | 0 => ⟨[], by simp⟩
  | k + 1 => by
    obtain ⟨r, hr⟩ := rangeKs_add m k
    exact ⟨r ++ [((m + k : Nat) : Int)], by rw [← Nat.add_assoc, rangeKs_succ, hr, List.append_assoc]⟩
theorem InW.exit {A B : List Nat} {b : Int} {opre : List Int} {k : Int} {d r mn : Int} {row : List Int} {nn : Nat} (h : InW A B b A.length opre k (rangeKs 0 nn) d r mn row) (hnn : nn = A.length) (hk : k = 0 + (opre.length : Int)) (hl : opre.length < B.length) (hm : b < mn) : levCore A B b = b + 1 := by
  obtain ⟨_, q, ⟨h0, h1⟩, h2⟩ := h
  have e : (opre ++ [k]).foldl (outStep A B b) (some (0, row0 A.length)) = none := by
    rw [List.foldl_append, h1]
    subst hnn
    show (if (inAll (B.getD k.toNat 0) A (k * 2) q.2).2.2.1 > b then none else some ((inAll (B.getD k.toNat 0) A (k * 2) q.2).2.1, (inAll (B.getD k.toNat 0) A (k * 2) q.2).2.2.2)) = _
    unfold inAll upto
    rw [h2, if_pos hm]
  have e2 := pre_succ h0 hk
  rw [List.length_append] at e2
  obtain ⟨rest, hr⟩ := rangeKs_add (opre.length + 1) (B.length - (opre.length + 1))
  rw [show opre.length + 1 + (B.length - (opre.length + 1)) = B.length by omega] at hr
  have e3 : opre ++ [k] = rangeKs 0 (opre.length + 1) := e2
  unfold levCore upto
  rw [hr, ← e3, List.foldl_append, e, out_none]
theorem OutW.done {A B : List Nat} {b : Int} {nn : Nat} {r : Int} {row : List Int} (h : OutW A B b A.length (rangeKs 0 nn) r row) (hnn : nn = B.length) : levCore A B b = r := by
  unfold levCore upto
  rw [← hnn, h.2]

theorem InW.turnLt {x y : Str} {b : Int} {n : Nat} {opre : List Int} {k : Int} {pre : List Int} {d r mn : Int} {row : List Int} {i : Int} (h : InW (tl x) (tl y) b n opre k pre d r mn row) (hi : i = 0 + (pre.length : Int)) (hix : i < x.length) (hk0 : 0 ≤ k) (hky : k < y.length)
    (hm : (if d + substF (Txt.item y k) (Txt.item x i) < (if row.getD i.toNat 0 < r then row.getD i.toNat 0 else r) + 2 then d + substF (Txt.item y k) (Txt.item x i) else (if row.getD i.toNat 0 < r then row.getD i.toNat 0 else r) + 2) < mn) :
    InW (tl x) (tl y) b n opre k (pre ++ [i]) (row.getD i.toNat 0) (if d + substF (Txt.item y k) (Txt.item x i) < (if row.getD i.toNat 0 < r then row.getD i.toNat 0 else r) + 2 then d + substF (Txt.item y k) (Txt.item x i) else (if row.getD i.toNat 0 < r then row.getD i.toNat 0 else r) + 2)
      (if d + substF (Txt.item y k) (Txt.item x i) < (if row.getD i.toNat 0 < r then row.getD i.toNat 0 else r) + 2 then d + substF (Txt.item y k) (Txt.item x i) else (if row.getD i.toNat 0 < r then row.getD i.toNat 0 else r) + 2)
      (row.set i.toNat (if d + substF (Txt.item y k) (Txt.item x i) < (if row.getD i.toNat 0 < r then row.getD i.toNat 0 else r) + 2 then d + substF (Txt.item y k) (Txt.item x i) else (if row.getD i.toNat 0 < r then row.getD i.toNat 0 else r) + 2)) := by
  have e := costN_of (x := y) (y := x) hk0 hky (show 0 ≤ i by omega) hix
  rw [e] at hm ⊢
  exact InW.turn h hi rfl rfl (if_pos hm).symm rfl
theorem InW.turnGe {x y : Str} {b : Int} {n : Nat} {opre : List Int} {k : Int} {pre : List Int} {d r mn : Int} {row : List Int} {i : Int} (h : InW (tl x) (tl y) b n opre k pre d r mn row) (hi : i = 0 + (pre.length : Int)) (hix : i < x.length) (hk0 : 0 ≤ k) (hky : k < y.length)
    (hm : ¬ (if d + substF (Txt.item y k) (Txt.item x i) < (if row.getD i.toNat 0 < r then row.getD i.toNat 0 else r) + 2 then d + substF (Txt.item y k) (Txt.item x i) else (if row.getD i.toNat 0 < r then row.getD i.toNat 0 else r) + 2) < mn) :
    InW (tl x) (tl y) b n opre k (pre ++ [i]) (row.getD i.toNat 0) (if d + substF (Txt.item y k) (Txt.item x i) < (if row.getD i.toNat 0 < r then row.getD i.toNat 0 else r) + 2 then d + substF (Txt.item y k) (Txt.item x i) else (if row.getD i.toNat 0 < r then row.getD i.toNat 0 else r) + 2)
      mn
      (row.set i.toNat (if d + substF (Txt.item y k) (Txt.item x i) < (if row.getD i.toNat 0 < r then row.getD i.toNat 0 else r) + 2 then d + substF (Txt.item y k) (Txt.item x i) else (if row.getD i.toNat 0 < r then row.getD i.toNat 0 else r) + 2)) := by
  have e := costN_of (x := y) (y := x) hk0 hky (show 0 ≤ i by omega) hix
  rw [e] at hm ⊢
  exact InW.turn h hi rfl rfl (if_neg hm).symm rfl
theorem InW.exitS {x y : Str} {b : Int} {opre : List Int} {k : Int} {d r mn : Int} {row : List Int} (h : InW (tl x) (tl y) b x.length opre k (rangeKs 0 ((x.length : Int) - 0).toNat) d r mn row) (hk : k = 0 + (opre.length : Int)) (hl : opre.length < ((y.length : Int) - 0).toNat) (hm : b < mn) : levCore (tl x) (tl y) b = b + 1 := by
  have hx := tl_len x
  have hy := tl_len y
  rw [← hx] at h
  exact InW.exit h (by omega) hk (by omega) hm
theorem InW.outS {x y : Str} {b : Int} {opre : List Int} {k : Int} {d r mn : Int} {row : List Int} (h : InW (tl x) (tl y) b x.length opre k (rangeKs 0 ((x.length : Int) - 0).toNat) d r mn row) (hk : k = 0 + (opre.length : Int)) (hm : ¬ b < mn) : OutW (tl x) (tl y) b x.length (opre ++ [k]) r row := by
  have hx := tl_len x
  exact InW.out h (by omega) hk hm
theorem OutW.doneS {x y : Str} {b : Int} {r : Int} {row : List Int} (h : OutW (tl x) (tl y) b x.length (rangeKs 0 ((y.length : Int) - 0).toNat) r row) : levCore (tl x) (tl y) b = r := by
  have hx := tl_len x
  have hy := tl_len y
  rw [← hx] at h
  exact OutW.done h (by omega)
end Mine

-- P2
open PySem PySem.W PyProof.Rows PyProof
set_option Elab.async false
set_option maxRecDepth 100000
set_option linter.unusedVariables false
namespace Mine
/-- what a 257's reader takes out of what stands behind the first quote -/
noncomputable def scan : List Nat → List Nat
  | [] => []
  | [c] => if c = 34 then [] else [c]
  | c :: d :: r => if c = 34 then (if d = 34 then 34 :: scan r else []) else c :: scan (d :: r)
termination_by l => l.length
theorem scan_other {c : Nat} {r : List Nat} (h : c ≠ 34) : scan (c :: r) = c :: scan r := by
  cases r with
  | nil => simp [scan, h]
  | cons d r => rw [scan, if_neg h]
noncomputable def st (l : List Nat) : Str := ⟨l.toArray⟩
theorem tl_st (l : List Nat) : tl (st l) = l := by simp [tl, st]
theorem st_tl (x : Str) : st (tl x) = x := tl_ext (tl_st _)
theorem tl_app (x y : Str) : tl (x ++ y) = tl x ++ tl y := by simp [tl, Str.cps_append]
noncomputable def q34 : Str := Str.ofString "\""
theorem q34_eq : Str.ofString "\"" = ⟨#[34]⟩ := by decide +kernel

/-- the loop's word -/
noncomputable def ScanW (x : Str) (i : Int) (d : Str) : Prop := tl d ++ scan ((tl x).drop i.toNat) = scan ((tl x).drop 5)
theorem ScanW.start (x : Str) : ScanW x 5 (Str.ofString "") := by
  have : tl (Str.ofString "") = [] := by decide +kernel
  unfold ScanW; rw [this]; rfl
theorem ScanW.other {x d : Str} {i : Int} (h : ScanW x i d) (h0 : 0 ≤ i) (h1 : i < x.length) (hc : (Txt.item x i == Str.ofString "\"") = false) : ScanW x (i + 1) (d ++ Txt.item x i) := by
  rw [beq_eq_false_iff_ne, q34_eq, it_eq h0 h1] at hc
  unfold ScanW at h ⊢
  rw [drop_cons (by rw [tl_len]; omega), scan_other (fun q => hc (by rw [q]))] at h
  rw [tl_app, it_eq h0 h1, show (i + 1).toNat = i.toNat + 1 by omega, ← h]
  simp [tl]
theorem ScanW.two {x d : Str} {i : Int} (h : ScanW x i d) (h0 : 0 ≤ i) (h1 : i + 1 < x.length) (hc : (Txt.item x i == Str.ofString "\"") = true) (hc' : (Txt.item x (i + 1) != Str.ofString "\"") = false) : ScanW x (i + 1 + 1) (d ++ Txt.item x i) := by
  rw [bne_eq_false_iff_eq, ← beq_iff_eq (α := Str)] at hc'
  rw [beq_iff_eq, q34_eq] at hc hc'
  rw [it_eq h0 (by omega)] at hc
  rw [it_eq (by omega) h1] at hc'
  have e1 := one_inj hc
  have e2 := one_inj hc'
  rw [show (i + 1).toNat = i.toNat + 1 by omega] at e2
  unfold ScanW at h ⊢
  rw [drop_cons (by rw [tl_len]; omega), drop_cons (i := i.toNat + 1) (by rw [tl_len]; omega), e1, e2, scan, if_pos rfl, if_pos rfl] at h
  rw [tl_app, it_eq h0 (by omega), e1, show (i + 1 + 1).toNat = i.toNat + 1 + 1 by omega, ← h]
  simp [tl]
theorem ScanW.stop {x d : Str} {i : Int} (h : ScanW x i d) (hi : ¬ i < (x.length : Int)) : d = st (scan ((tl x).drop 5)) := by
  unfold ScanW at h
  rw [List.drop_of_length_le (by rw [tl_len]; omega)] at h
  rw [← h, scan, List.append_nil, st_tl]
theorem ScanW.brkEnd {x d : Str} {i : Int} (h : ScanW x i d) (h0 : 0 ≤ i) (h1 : i < x.length) (h2 : (x.length : Int) ≤ i + 1) (hc : (Txt.item x i == Str.ofString "\"") = true) : d = st (scan ((tl x).drop 5)) := by
  rw [beq_iff_eq, q34_eq, it_eq h0 h1] at hc
  unfold ScanW at h
  rw [drop_cons (by rw [tl_len]; omega), one_inj hc, List.drop_of_length_le (by rw [tl_len]; omega)] at h
  rw [← h, scan, if_pos rfl, List.append_nil, st_tl]
theorem ScanW.brk {x d : Str} {i : Int} (h : ScanW x i d) (h0 : 0 ≤ i) (h1 : i + 1 < x.length) (hc : (Txt.item x i == Str.ofString "\"") = true) (hc' : (Txt.item x (i + 1) != Str.ofString "\"") = true) : d = st (scan ((tl x).drop 5)) := by
  rw [beq_iff_eq, q34_eq, it_eq h0 (by omega)] at hc
  rw [bne_iff_ne, q34_eq, it_eq (by omega) h1, show (i + 1).toNat = i.toNat + 1 by omega] at hc'
  unfold ScanW at h
  rw [drop_cons (by rw [tl_len]; omega), one_inj hc, drop_cons (i := i.toNat + 1) (by rw [tl_len]; omega), scan, if_pos rfl, if_neg (fun q => hc' (by rw [q]))] at h
  rw [← h, List.append_nil, st_tl]
theorem open257 {x : Str} (h : (tl x).take 5 = [50, 53, 55, 32, 34]) (hl : 5 ≤ x.length) : (Txt.slice x none (some 3) == Str.ofString "257") = true := by
  rw [beq_iff_eq]
  refine tl_ext ?_
  rw [sl_to (by omega) (by omega)]
  have e : (tl x).take 3 = ((tl x).take 5).take 3 := by rw [List.take_take]; rfl
  show (tl x).take 3 = _
  rw [e, h]; decide +kernel
theorem sl_mid {x : Str} {i j : Int} (h : 0 ≤ i ∧ i ≤ j ∧ j ≤ x.length) : tl (Txt.slice x (some i) (some j)) = ((tl x).drop i.toNat).take (j - i).toNat := by
  have := beq_iff_eq.mp (slice_closes (x := x) (i := i) (j := j) (by have := tl_len x; simp only [tl] at this; omega))
  rw [this]
theorem open257b {x : Str} (h : (tl x).take 5 = [50, 53, 55, 32, 34]) (hl : 5 ≤ x.length) : (Txt.slice x (some 3) (some 5) == Str.ofString " \"") = true := by
  rw [beq_iff_eq]
  refine tl_ext ?_
  rw [sl_mid (by omega)]
  have e : ((tl x).drop 3).take 2 = ((tl x).take 5).drop 3 := by rw [List.drop_take]
  show ((tl x).drop 3).take 2 = _
  rw [e, h]; decide +kernel

/-- a reply that a 229's reader takes, and its number -/
structure Good229 (x : Str) (n : Int) : Prop where
  len : x.length ≤ 1000
  head : (Txt.slice x none (some 3) == Str.ofString "229") = true
  left : Txt.find x (Str.ofString "(") = 4
  right : 9 ≤ Txt.find3 x (Str.ofString ")") (Txt.find x (Str.ofString "(") + 1) ∧ Txt.find3 x (Str.ofString ")") (Txt.find x (Str.ofString "(") + 1) < x.length
  marks : (Txt.item x (Txt.find x (Str.ofString "(") + 1) != Txt.item x (Txt.find3 x (Str.ofString ")") (Txt.find x (Str.ofString "(") + 1) - 1)) = false
  parts : ∃ a b c d e, Txt.split (Txt.slice x (some (Txt.find x (Str.ofString "(") + 1)) (some (Txt.find3 x (Str.ofString ")") (Txt.find x (Str.ofString "(") + 1)))) (Txt.item x (Txt.find x (Str.ofString "(") + 1)) = [a, b, c, d, e] ∧ PySem.intText? d = some n ∧ d.length ≤ 640
noncomputable def Tup2 (host : Str) (n : Int) (o : Obj) : Prop := ∃ t u, o = { cls := .type "tuple", data := .seq #[.str host t, .int n u] }

noncomputable def Tup2I (q r : Int) (o : Obj) : Prop := ∃ t u, o = { cls := .type "tuple", data := .seq #[.int q t, .int r u] }
theorem bits60 {x : Int} (h0 : 0 ≤ x) (h1 : x < 2 ^ 60) : (Builtin.Int.intBits x : Int) ≤ 60 := by
  have := (intBits_le_iff (m := 60) (x := x)).mpr (by omega)
  omega

theorem mul_one1 {prog : Program} {w : World} {A : Around} {E : Value → Shared → Prop} {s : Shared} {h₀ : Heap} {L l : Addr} {m : Str → Option Value} {news : List (Addr × Obj)} {v : Value} {k : Nat} {u : Tok} {Q : Value → Shared → Prop}
    (F : Fr h₀ L s.heap m) (N : News h₀ L s.heap news) (hl : s.heap.IsList l #[v]) (hk : k ≤ 256)
    (h : ∀ D h', Fr h₀ L h' m → News h₀ L h' ((D, listOf (List.replicate k v).toArray 0) :: news) → (∀ p ∈ news, p.1 < D) → Q (.ref D) { s with heap := h' }) :
    wpAny (model prog w) A (binaryOp .Mult (.ref l) (.int (k : Int) u)) Q E s :=
  KMa.mul (vs := [v]) F N hl (by omega) (by omega) (by simp; omega) (by simp [List.flatten_replicate_singleton]) h
end Mine

-- P3
open PySem PySem.W PyProof.Rows PyProof
set_option Elab.async false
set_option maxRecDepth 100000
set_option linter.unusedVariables false
namespace Mine
/-- k digits of x to the base 2 ^ n, the lowest first -/
noncomputable def dg (n : Nat) : Nat → Nat → List Int
  | _, 0 => []
  | x, k + 1 => ((x % 2 ^ n : Nat) : Int) :: dg n (x / 2 ^ n) k
theorem dg_len (n : Nat) : ∀ (k : Nat) (x : Nat), (dg n x k).length = k
  | 0, _ => rfl
  | k + 1, x => by simp [dg, dg_len n k]
theorem dg_one {n x : Nat} (h1 : x < 2 ^ n) : dg n x 1 = [(x : Int)] := by
  simp only [dg, Nat.mod_eq_of_lt h1]
theorem dg_split (n : Nat) : ∀ (i j : Nat) (x : Nat), dg n x (i + j) = dg n (x % 2 ^ (n * i)) i ++ dg n (x / 2 ^ (n * i)) j
  | 0, j, x => by simp [dg]
  | i + 1, j, x => by
    have e : i + 1 + j = (i + j) + 1 := by omega
    have hp : 2 ^ (n * (i + 1)) = 2 ^ n * 2 ^ (n * i) := by rw [Nat.mul_add, Nat.mul_one, Nat.add_comm, Nat.pow_add]
    rw [e]
    show ((x % 2 ^ n : Nat) : Int) :: dg n (x / 2 ^ n) (i + j) = (((x % 2 ^ (n * (i + 1)) % 2 ^ n : Nat) : Int) :: dg n (x % 2 ^ (n * (i + 1)) / 2 ^ n) i) ++ _
    rw [dg_split n i j, hp, Nat.mod_mul_right_mod, Nat.mod_mul_right_div_self, Nat.div_div_eq_div_mul, List.cons_append]
theorem and_high (x s : Nat) : x &&& (x / 2 ^ s * 2 ^ s) = x / 2 ^ s * 2 ^ s := by
  apply Nat.eq_of_testBit_eq
  intro i
  rw [Nat.testBit_and, Nat.testBit_mul_two_pow, ← Nat.shiftRight_eq_div_pow, Nat.testBit_shiftRight]
  by_cases h : s ≤ i
  · simp [h, show s + (i - s) = i by omega]
  · simp [h]
theorem xor_low {x : Int} {s : Nat} (h0 : 0 ≤ x) : Builtin.bitXor x (x.fdiv (2 ^ s) * 2 ^ s) = ((x.toNat % 2 ^ s : Nat) : Int) := by
  obtain ⟨n, rfl⟩ : ∃ n : Nat, x = n := ⟨x.toNat, by omega⟩
  have e : ((n : Int).fdiv (2 ^ s)) * 2 ^ s = ((n / 2 ^ s * 2 ^ s : Nat) : Int) := by
    rw [Int.fdiv_eq_ediv_of_nonneg _ (Int.le_of_lt (Int.pow_pos (by decide)))]
    norm_cast
  rw [e, bitXor_and]
  have e2 : Builtin.bitAnd (n : Int) ((n / 2 ^ s * 2 ^ s : Nat) : Int) = ((n / 2 ^ s * 2 ^ s : Nat) : Int) := by
    unfold Builtin.bitAnd
    simp only [Int.natCast_nonneg, decide_true, Int.toNat_natCast, and_high]
  rw [e2, Int.toNat_natCast]
  have := Nat.div_add_mod n (2 ^ s)
  rw [Nat.mul_comm] at this
  omega
theorem shr_nat {x : Int} {s : Nat} (h0 : 0 ≤ x) : x.fdiv (2 ^ s) = ((x.toNat / 2 ^ s : Nat) : Int) := by
  obtain ⟨n, rfl⟩ : ∃ n : Nat, x = n := ⟨x.toNat, by omega⟩
  rw [Int.fdiv_eq_ediv_of_nonneg _ (Int.le_of_lt (Int.pow_pos (by decide)))]
  norm_cast
noncomputable def put (ds : List Int) (lo : Nat) (l : List Int) : List Int := ds.take lo ++ l ++ ds.drop (lo + l.length)
theorem put_len {ds l : List Int} {lo : Nat} (h : lo + l.length ≤ ds.length) : (put ds lo l).length = ds.length := by
  simp [put]; omega
theorem put_one {ds : List Int} {lo : Nat} {x : Int} (h : lo < ds.length) : ds.set lo x = put ds lo [x] := by
  unfold put
  rw [List.set_eq_take_append_cons_drop, if_pos h]
  simp
theorem put_put {ds a b : List Int} {lo mid : Nat} (h : lo + a.length = mid) (hl : mid + b.length ≤ ds.length) : put (put ds lo a) mid b = put ds lo (a ++ b) := by
  unfold put
  have e1 : (ds.take lo ++ a ++ ds.drop (lo + a.length)).take mid = ds.take lo ++ a := by
    rw [List.take_append_of_le_length (by simp; omega), List.take_of_length_le (by simp; omega)]
  have e2 : (ds.take lo ++ a ++ ds.drop (lo + a.length)).drop (mid + b.length) = ds.drop (lo + (a ++ b).length) := by
    rw [List.drop_append, List.drop_of_length_le (by simp; omega), List.nil_append, List.drop_drop]
    congr 1
    simp only [List.length_append, List.length_take]
    omega
  rw [e1, e2, List.append_assoc (ds.take lo)]

/-- digits read back -/
noncomputable def ud (n : Nat) : List Int → Int
  | [] => 0
  | d :: r => d + 2 ^ n * ud n r
theorem ud_append (n : Nat) : ∀ a b : List Int, ud n (a ++ b) = ud n a + 2 ^ (n * a.length) * ud n b
  | [], b => by simp [ud]
  | d :: r, b => by
    show d + 2 ^ n * ud n (r ++ b) = d + 2 ^ n * ud n r + 2 ^ (n * (r.length + 1)) * ud n b
    rw [ud_append n r b, Nat.mul_add, Nat.mul_one, Nat.add_comm (n * r.length) n, Int.pow_add, Int.mul_add, Int.mul_assoc, Int.add_assoc]
theorem ud_nonneg (n : Nat) : ∀ l : List Int, (∀ d ∈ l, 0 ≤ d) → 0 ≤ ud n l
  | [], _ => Int.le_refl _
  | d :: r, h => by
    have h1 := ud_nonneg n r fun x hx => h x (.tail _ hx)
    have h2 := h d (.head _)
    have h3 := Int.mul_nonneg (Int.le_of_lt (Int.pow_pos (n := 2) (m := n) (by decide))) h1
    show 0 ≤ d + 2 ^ n * ud n r
    omega
noncomputable def cutl (ds : List Int) (lo k : Nat) : List Int := (ds.drop lo).take k
theorem cutl_split (ds : List Int) (lo i j : Nat) : cutl ds lo (i + j) = cutl ds lo i ++ cutl ds (lo + i) j := by
  unfold cutl
  rw [List.take_add, List.drop_drop]
theorem cutl_len {ds : List Int} {lo k : Nat} (h : lo + k ≤ ds.length) : (cutl ds lo k).length = k := by
  unfold cutl; simp; omega
theorem cutl_one {ds : List Int} {lo : Nat} (h : lo < ds.length) : cutl ds lo 1 = [ds.getD lo 0] := by
  unfold cutl
  rw [List.drop_eq_getElem_cons h]
  show [ds[lo]] = _
  simp [h]
theorem cutl_mem {ds : List Int} {lo k : Nat} {d : Int} (h : d ∈ cutl ds lo k) : d ∈ ds := List.mem_of_mem_drop (List.mem_of_mem_take h)
theorem ud_split {n : Nat} {ds : List Int} {lo i j k : Nat} (hp : ∀ d ∈ ds, 0 ≤ d) (e : k = i + j) (hl : lo + k ≤ ds.length) :
    ud n (cutl ds lo k) = ud n (cutl ds lo i) + 2 ^ (n * i) * ud n (cutl ds (lo + i) j) ∧ 0 ≤ ud n (cutl ds lo i) ∧ 0 ≤ ud n (cutl ds (lo + i) j) ∧ ud n (cutl ds (lo + i) j) ≤ 2 ^ (n * i) * ud n (cutl ds (lo + i) j) := by
  subst e
  have h1 := ud_nonneg n (cutl ds lo i) fun d hd => hp d (cutl_mem hd)
  have h2 := ud_nonneg n (cutl ds (lo + i) j) fun d hd => hp d (cutl_mem hd)
  refine ⟨by rw [cutl_split, ud_append, cutl_len (by omega)], h1, h2, ?_⟩
  have h3 : (1 : Int) ≤ 2 ^ (n * i) := Int.pow_pos (by decide)
  have := Int.mul_le_mul_of_nonneg_right h3 h2
  omega
end Mine

-- P4
open PySem PySem.W PyProof.Rows PyProof
set_option Elab.async false
set_option maxRecDepth 100000
set_option linter.unusedVariables false
namespace Mine
/-- the division digit by digit; the lowest digit first -/
noncomputable def dm (n : Nat) (b : Int) : List Int → List Int × Int
  | [] => ([], 0)
  | d :: r => (((dm n b r).2 * 2 ^ n + d).fdiv b :: (dm n b r).1, ((dm n b r).2 * 2 ^ n + d).fmod b)
theorem dm_len (n : Nat) (b : Int) : ∀ l, (dm n b l).1.length = l.length
  | [] => rfl
  | d :: r => by simp [dm, dm_len n b r]
theorem dm_rest {n : Nat} {b : Int} (hb : 0 < b) : ∀ l, 0 ≤ (dm n b l).2 ∧ (dm n b l).2 < b
  | [] => ⟨Int.le_refl _, hb⟩
  | d :: r => by
    show 0 ≤ Int.fmod _ b ∧ Int.fmod _ b < b
    exact ⟨Int.fmod_nonneg_of_pos _ hb, Int.fmod_lt_of_pos _ hb⟩
theorem dm_eq {n : Nat} {b : Int} (hb : 0 < b) : ∀ l, ud n (dm n b l).1 * b + (dm n b l).2 = ud n l
  | [] => by simp [dm, ud]
  | d :: r => by
    have ih := dm_eq hb r (n := n)
    show (((dm n b r).2 * 2 ^ n + d).fdiv b + 2 ^ n * ud n (dm n b r).1) * b + ((dm n b r).2 * 2 ^ n + d).fmod b = d + 2 ^ n * ud n r
    have h := Int.mul_fdiv_add_fmod ((dm n b r).2 * 2 ^ n + d) b
    generalize ((dm n b r).2 * 2 ^ n + d).fdiv b = Q at *
    generalize ((dm n b r).2 * 2 ^ n + d).fmod b = R at *
    rw [← ih, Int.mul_add, Int.add_mul, Int.mul_comm (dm n b r).2 (2 ^ n)] at *
    rw [Int.mul_assoc]
    generalize 2 ^ n * (ud n (dm n b r).1 * b) = U at *
    generalize 2 ^ n * (dm n b r).2 = V at *
    rw [Int.mul_comm Q b]
    omega
theorem dm_nonneg {n : Nat} {b : Int} (hb : 0 < b) : ∀ l, (∀ d ∈ l, 0 ≤ d) → ∀ q ∈ (dm n b l).1, 0 ≤ q
  | [], _, q, hq => by cases hq
  | d :: r, h, q, hq => by
    have ih := dm_nonneg hb r (fun x hx => h x (.tail _ hx)) (n := n)
    have hr := (dm_rest (n := n) hb r).1
    rcases List.mem_cons.mp hq with rfl | hq
    · have h1 := h d (.head _)
      have h2 : (0 : Int) ≤ (dm n b r).2 * 2 ^ n := Int.mul_nonneg hr (Int.le_of_lt (Int.pow_pos (by decide)))
      exact Int.fdiv_nonneg (by omega) (by omega)
    · exact ih q hq
theorem dg_nonneg (n : Nat) : ∀ (k x : Nat), ∀ d ∈ dg n x k, 0 ≤ d ∧ d < 2 ^ n
  | 0, _, d, h => by cases h
  | k + 1, x, d, h => by
    rcases List.mem_cons.mp h with rfl | h
    · refine ⟨Int.natCast_nonneg _, ?_⟩
      have := Nat.mod_lt x (Nat.two_pow_pos n)
      exact_mod_cast this
    · exact dg_nonneg n k _ d h
theorem ud_dg (n : Nat) : ∀ (k x : Nat), x < 2 ^ (n * k) → ud n (dg n x k) = x
  | 0, x, h => by
    simp only [Nat.mul_zero, Nat.pow_zero] at h
    obtain rfl : x = 0 := by omega
    rfl
  | k + 1, x, h => by
    show ((x % 2 ^ n : Nat) : Int) + 2 ^ n * ud n (dg n (x / 2 ^ n) k) = x
    rw [ud_dg n k (x / 2 ^ n) (by rw [Nat.div_lt_iff_lt_mul (Nat.two_pow_pos _), ← Nat.pow_add]; rwa [Nat.mul_add, Nat.mul_one] at h)]
    have := Nat.mod_add_div x (2 ^ n)
    exact_mod_cast this
theorem dm_div {n k : Nat} {x b : Int} (hb : 0 < b) (h0 : 0 ≤ x) (hx : x < 2 ^ (n * k)) : ud n (dm n b (dg n x.toNat k)).1 = x.fdiv b ∧ (dm n b (dg n x.toNat k)).2 = x.fmod b := by
  have hx' : x.toNat < 2 ^ (n * k) := by
    have : ((x.toNat : Nat) : Int) < ((2 ^ (n * k) : Nat) : Int) := by rw [Int.toNat_of_nonneg h0]; exact_mod_cast hx
    exact_mod_cast this
  have e := dm_eq hb (dg n x.toNat k) (n := n)
  rw [ud_dg n k _ hx', Int.toNat_of_nonneg h0] at e
  have hr := dm_rest hb (dg n x.toNat k) (n := n)
  have h1 := Int.mul_fdiv_add_fmod x b
  have h2 := Int.fmod_nonneg_of_pos x hb
  have h3 := Int.fmod_lt_of_pos x hb
  generalize ud n (dm n b (dg n x.toNat k)).1 = Q at *
  generalize (dm n b (dg n x.toNat k)).2 = R at *
  have e2 : x = R + Q * b := by omega
  constructor
  · rw [e2, Int.add_mul_fdiv_right _ _ (by omega), Int.fdiv_eq_ediv_of_nonneg _ (by omega), Int.ediv_eq_zero_of_lt hr.1 hr.2, Int.zero_add]
  · rw [e2, Int.add_mul_fmod_self_right, Int.fmod_eq_emod_of_nonneg _ (by omega), Int.emod_eq_of_lt hr.1 hr.2]
end Mine

-- KRev
open PySem PySem.W PyProof.Rows
set_option Elab.async false
set_option maxRecDepth 100000
namespace Mine
theorem ints_rev {vs : List Value} {ns : List Int} (hi : IntsAre vs ns) {i : Nat} {v : Value} (h : vs[vs.length - 1 - i]? = some v) (hl : i < vs.length) : ∃ n t, v = .int n t ∧ ns.reverse[i]? = some n := by
  have e := hi.length
  have hlt : vs.length - 1 - i < ns.length := by omega
  obtain ⟨t, hx⟩ := hi.get (vs.length - 1 - i) ns[vs.length - 1 - i] (by simp [hlt])
  refine ⟨ns[vs.length - 1 - i], t, ?_, ?_⟩
  · rw [hx] at h; exact (Option.some.inj h).symm
  · rw [List.getElem?_reverse (by omega)]
    have e2 : ns.length - 1 - i = vs.length - 1 - i := by omega
    rw [e2]; simp [hlt]
theorem kst_rev {σ : Type} {prog : Program} {w : World} {A : Around} {E : Value → Shared → Prop} {s : Shared} {env : Env} {h₀ : Heap} {x : Str} {body : List Stmt} {Q : Flow → Shared → Prop} {l I : Addr} {vs : List Value} {ns : List Int} {m₀ : Str → Option Value}
    (Led : σ → List (Addr × Obj)) (ps : σ → List (Str × Value)) (Facts : σ → Prop) (stored : List Str) (P : List Int → σ → Prop) (c₀ : σ)
    (hh : A.handled = none) (hI : s.heap.get? I = some (revObj l ((vs.length : Int) - 1))) (hl : s.heap.IsList l vs.toArray) (hi : IntsAre vs ns) (hne : l ≠ I) (hI0 : h₀.get? I = none) (hIL : env.locals ≠ I) (hlL : env.locals ≠ l)
    (F : Fr h₀ env.locals s.heap m₀) (N : News h₀ env.locals s.heap (Led c₀)) (hoff : ∀ q ∈ Led c₀, q.1 ≠ I ∧ q.1 ≠ l) (hf : Facts c₀) (hk : ∀ p ∈ ps c₀, m₀ p.1 = some p.2) (hp : P [] c₀)
    (turn : ∀ (c : σ) (pre post : List Int) (k : Int) t (u : Str → Option Value) h tk own, ns.reverse = pre ++ k :: post → OwnOff own ((Led c₀).map (·.1)) → Facts c → P pre c →
      Fr h₀ env.locals h (fun y => if y = x then some (.int k t) else kstB (fun z => if stored.contains z then u z else m₀ z) (ps c) y) → News h₀ env.locals h (Led c ++ own) →
      wpAny (model prog w) A (execs body env) (InvPostN h₀ env.locals (KstS Led ps Facts x stored m₀ P (pre ++ [k])) own ((Led c₀).map (·.1)) { s with heap := h, toks := tk } Q) E { s with heap := h, toks := tk })
    (done : ∀ (c : σ) (u : Str → Option Value) h tk, Facts c → P ns.reverse c → Fr h₀ env.locals h (fun y => if y = x then u y else kstB (fun z => if stored.contains z then u z else m₀ z) (ps c) y) → News h₀ env.locals h (Led c) → Q .next { s with heap := h, toks := tk }) :
    wpAny (model prog w) A (pyIter (.ref I)) (fun it s₂ => LoopAtV prog w A h₀ env x body Q E it s₂) E s := by
  refine wpAny_pyIter_revIter (l := l) (i := (vs.length : Int) - 1) ⟨_, hI, rfl, rfl⟩ ?_
  have W := Walks.listRev (prog := prog) (w := w) hh I l hne vs.toArray
  have hsz : vs.toArray.size = ns.reverse.length := by simp [hi.length]
  refine loop_invN (fun i m nx => KstS Led ps Facts x stored m₀ P (ns.reverse.take i) m nx) W ?_ ?_ ?_ ?_ ?_ F N ⟨c₀, rfl, hf, hk, fun _ _ _ _ => rfl, by simpa using hp⟩ ?_ ?_
  · intro hm
    rcases List.mem_cons.mp hm with e | hm
    · exact hIL e
    · exact hlL (List.mem_singleton.mp hm)
  · intro b hb
    rw [List.mem_singleton.mp hb]
    exact hI0
  · intro p hp' hm
    exact (hoff p hp').1 (List.mem_singleton.mp hm)
  · intro p hp' hm
    rcases List.mem_cons.mp hm with e | hm
    · exact (hoff p hp').1 e
    · exact (hoff p hp').2 (List.mem_singleton.mp hm)
  · exact ⟨Nat.zero_le _, ⟨_, hI, rfl, by simp [revObj]⟩, hl⟩
  · rintro i v m₁ nx h tk own hlt hv _ hoff' ⟨c, rfl, hf', h1, h2, hp'⟩ F₁ N₁
    have hlt' : i < vs.length := by simpa using hlt
    obtain ⟨n, t, rfl, hn⟩ := ints_rev hi (by simpa using hv) hlt'
    have hs : ns.reverse.take (i + 1) = ns.reverse.take i ++ [n] := by rw [List.take_add_one, hn]; rfl
    have e : ns.reverse = ns.reverse.take i ++ n :: ns.reverse.drop (i + 1) := by
      have ht := List.take_append_drop (i + 1) ns.reverse
      rw [hs, List.append_assoc] at ht
      exact ht.symm
    rw [hs]
    exact turn c _ _ n t m₁ h tk own e hoff' hf' hp' (kst_fr h1 h2 F₁) N₁
  · rintro m₁ nx h tk ⟨c, rfl, hf', h1, h2, hp'⟩ F₁ N₁
    rw [hsz, List.take_length] at hp'
    exact done c m₁ h tk hf' hp' (kst_frOut h1 h2 F₁) N₁
end Mine

-- F1
open PySem PySem.W PyProof.Rows PyProof
set_option Elab.async false
set_option maxRecDepth 100000
set_option maxHeartbeats 8000000
set_option pp.deepTerms false
set_option pp.deepTerms.threshold 6
set_option rowWalk.seconds 0
namespace Mine
theorem subst_ok {w : World} {p : Program} {loose : List Str} {mean : ExcName → Option Value} {mg mb : Str → Option Value} (x y : Str) (tx ty : Tok) :
  Pure PySem.Challenge.rw_rs0157_01.prog w (hd1.heap_1 w.params) p loose mean mg mb 21 1 8 [.str x tx, .str y ty] (fun _ => x.length ≤ 1 ∧ y.length ≤ 1) (IsV fun t => .int (substF x y) t) := by
  k_fill
  k_with_none
  w_top off
  intro dp un gd cn cs a ccd cl outer A₀ base h₀ L m s Q E hB hF hX hT hcs hdp hun hpre hret
  refine wpAny_call ?_
  ((k_dflt (refine' code_pure ?k1 ?k2 ?k3 ?k5 ?kA ?kF ?kK ?k6 ?k7 ?k8 ?k9 ?kB ?_ ?c2 ?c3 ?c4 ?c5; (case kA => exact rfl); (case kF => exact rfl); (case kK => assumption); (case k1 => k_asm); (case k2 => k_asm); (case k3 => k_asm); (case k5 => k_asm); (case k6 => k_is); (case k7 => k_is); (case k8 => (show _ < _; dsimp only; omega)); (case k9 => exact BindsTo.of_eq rfl); (case c5 => decide); (case kB => exact locs rfl); (case c2 => exact rfl); (case c3 => exact rfl); (case c4 => exact rfl); k_whole)))
  intro g L' h₁ hg F' N' B' X' T'
  (try dsimp only); (try k_fold)
  k_steps
  all_goals refine hret _ _ _ (stays_of hg (by assumption)) (isV_int ?_)
  · rename (x == y) = true => e; unfold substF; rw [if_pos (beq_iff_eq.mp e)]
  · rename (x == y) = false => e; rename (Txt.lower x == Txt.lower y) = true => e2; unfold substF; rw [if_neg (beq_eq_false_iff_ne.mp e), if_pos (beq_iff_eq.mp e2)]
  · rename (x == y) = false => e; rename (Txt.lower x == Txt.lower y) = false => e2; unfold substF; rw [if_neg (beq_eq_false_iff_ne.mp e), if_neg (beq_eq_false_iff_ne.mp e2)]
end Mine

-- FLC
open PySem PySem.W PyProof.Rows PyProof
set_option Elab.async false
set_option maxRecDepth 100000
set_option maxHeartbeats 8000000
set_option pp.deepTerms false
set_option pp.deepTerms.threshold 6
set_option rowWalk.seconds 0
namespace Mine

noncomputable def fnScopeAt (P : Params) (f : Addr) : Scope := match (hd1.heap_1 P).lookup f with
  | some ⟨_, _, .func fd, _⟩ => fd.scope
  | _ => default
noncomputable def fnBodyAt (P : Params) (f : Addr) : List Stmt := match (hd1.heap_1 P).lookup f with
  | some ⟨_, _, .func fd, _⟩ => (match fd.body with | .stmts b => b | .expr _ => [])
  | _ => []
noncomputable abbrev levEnv (P : Params) (L : Addr) (cdv : Value) : Env := envOf (Str.ofString "_levenshtein_distance") (fnScopeAt P 28) L 28 cdv
theorem lev_core {w : World} {p : Program} {loose : List Str} {mean : ExcName → Option Value} {mg mb : Str → Option Value} {dp un : Nat} {gd : Option (List Code)} {cn : Str} {cs : Scope} {L a : Addr} {ccd cdv : Value} {cl : List (Str × Addr)} {outer : List Env} {base g : Heap} {L' : Addr} {s : Shared} {m₀ : Str → Option Value} {Q : Flow → Shared → Prop} {E : Value → Shared → Prop} {a3 b3 : Str} {b : Int} {ta tb3 tb : Tok}
    (B' : Below (ktrTop dp un gd cn cs L a ccd cl outer) base (envX cn cs L a ccd cl :: outer) g) (F' : Fr g L' s.heap (kstB m₀ [(Str.ofString "a", .str a3 ta), (Str.ofString "b", .str b3 tb3), (Str.ofString "max_cost", .int b tb)])) (N' : News g L' s.heap []) (X' : (hd1.heap_1 w.params).In g) (T' : Top p loose mean mg mb g)
    (hdp : dp + 3 < recursionLimit) (hun : un + 16 < cLine)
    (h1 : (a3.length : Int) ≤ b3.length) (h2 : b3.length ≤ 40) (h3 : 0 < a3.length)
    (hret : ∀ h' tk' m' t r, r = levCore (tl a3) (tl b3) b → Fr g L' h' m' → Q (.ret (.int r t)) { s with heap := h', toks := tk' }) :
    wpAny (model PySem.Challenge.rw_rs0157_01.prog w) ((ktrTop dp un gd cn cs L a ccd cl outer).deeper (levEnv w.params L' cdv)) (execs ((fnBodyAt w.params 28).drop 13) (levEnv w.params L' cdv)) Q
      (fun e s' => wpAny (model PySem.Challenge.rw_rs0157_01.prog w) ((ktrTop dp un gd cn cs L a ccd cl outer).deeper (levEnv w.params L' cdv)) (leaving (levEnv w.params L' cdv) e) (fun _ s'' => E e s'') (fun e' s'' => E e' s'') s') s := by
  revert X'
  k_fill
  intro X'
  k_with_none
  w_top off
  k_with "state" => first | exact ⟨rangeInts_length _ _ _, OutW.start _ _ _ _⟩ | exact ⟨by assumption, InW.start (by assumption)⟩ | exact ⟨(List.length_set ..).trans (by assumption), InW.turnLt (by assumption) (by assumption) (by omega) (by omega) (by omega) (by assumption)⟩ | exact ⟨(List.length_set ..).trans (by assumption), InW.turnGe (by assumption) (by assumption) (by omega) (by omega) (by omega) (by assumption)⟩ | exact ⟨by assumption, InW.outS (by assumption) (by assumption) (by assumption)⟩
  generalize hbody : (fnBodyAt w.params 28).drop 13 = body
  unfold levEnv
  generalize hscope : fnScopeAt w.params 28 = sc
  conv at hbody => lhs; whnf
  conv at hscope => lhs; whnf
  subst hbody hscope
  dsimp only [kstB] at F'
  (try dsimp only); (try k_fold)
  (repeat' ((fail_if_success (with_reducible show wpAny _ _ (pyIter _) _ _ _)); (fail_if_success (with_reducible show wpAny _ _ (PySem.call (Value.type "list") _) _ _ _)); first | (k_unfold; (try dsimp only)) | walk1 | (dsimp only; walk1) | (leave1; try dsimp only)))
  refine list_rangeC (n := a3.length) rfl (by assumption) (by assumption) (by assumption) (small2 (by omega) (by omega)) (size2 (by omega)) (by omega) ?_
  intro D us c' h' tk F' N' hlt hI
  clear hlt
  (repeat' ((fail_if_success (with_reducible show wpAny _ _ (pyIter _) _ _ _)); (fail_if_success (with_reducible show wpAny _ _ (PySem.call (Value.ref 21) _) _ _ _)); first | (k_unfold; (try dsimp only)) | walk1 | (dsimp only; walk1) | (leave1; try dsimp only)))
  k_state (fun pre result row => row.length = a3.length ∧ OutW (tl a3) (tl b3) b a3.length pre result row) "result" "row"
  · (repeat' ((fail_if_success (with_reducible show wpAny _ _ (pyIter _) _ _ _)); (fail_if_success (with_reducible show wpAny _ _ (PySem.call (Value.ref 21) _) _ _ _)); first | (k_unfold; (try dsimp only)) | walk1 | (dsimp only; walk1) | (leave1; try dsimp only)))
    k_state (fun pre d r mn row => row.length = a3.length ∧ InW (tl a3) (tl b3) b a3.length kPre kN pre d r mn row) "distance" "result" "minimum" "row"
    · (repeat' ((fail_if_success (with_reducible show wpAny _ _ (pyIter _) _ _ _)); (fail_if_success (with_reducible show wpAny _ _ (PySem.call (Value.ref 21) _) _ _ _)); first | (k_unfold; (try dsimp only)) | walk1 | (dsimp only; walk1) | (leave1; try dsimp only)))
      rename Fr g L' _ _ => FF
      rename News g L' _ _ => NN
      refine Pure.call (subst_ok _ _ _ _) B' FF X' T' NN rfl (by show _ < _; dsimp only; omega) (by show _ < _; dsimp only; omega) (by (try dsimp only); omega) ?_
      rintro v h6 tk6 st6 ⟨t6, rfl⟩ F6 N6
      clear st6 FF NN
      (repeat' ((fail_if_success (with_reducible show wpAny _ _ (pyIter _) _ _ _)); (fail_if_success (with_reducible show wpAny _ _ (PySem.call (Value.ref 21) _) _ _ _)); first | (k_unfold; (try dsimp only)) | walk1 | (dsimp only; walk1) | (leave1; try dsimp only)))
    · (repeat' ((fail_if_success (with_reducible show wpAny _ _ (pyIter _) _ _ _)); (fail_if_success (with_reducible show wpAny _ _ (PySem.call (Value.ref 21) _) _ _ _)); first | (k_unfold; (try dsimp only)) | walk1 | (dsimp only; walk1) | (leave1; try dsimp only)))
      all_goals (try exact hret _ _ _ _ _ (InW.exitS (by assumption) (by assumption) (by assumption) (by assumption)).symm (by assumption))
  · (repeat' ((fail_if_success (with_reducible show wpAny _ _ (pyIter _) _ _ _)); (fail_if_success (with_reducible show wpAny _ _ (PySem.call (Value.ref 21) _) _ _ _)); first | (k_unfold; (try dsimp only)) | walk1 | (dsimp only; walk1) | (leave1; try dsimp only)))
    exact hret _ _ _ _ _ (OutW.doneS (by assumption)).symm (by assumption)
end Mine

-- P12
open PySem PySem.W PyProof.Rows PyProof
set_option Elab.async false
set_option maxRecDepth 100000
set_option linter.unusedVariables false
namespace Mine
/-- the rows of a table on the ledger -/
noncomputable def rowsLed : List Addr → List Nat → List (List Value) → List (Addr × Obj)
  | R :: Rs, k :: ks, u :: us => (R, listOf u.toArray k) :: rowsLed Rs ks us
  | _, _, _ => []
/-- the table us holds T, n by n -/
structure TabOk (us : List (List Value)) (T : Nat → Nat → Int) (n : Nat) : Prop where
  len : us.length = n
  row : ∀ i, i < n → IntsAre (us.getD i []) ((List.range n).map (T i))
theorem rowsLed_mem : ∀ {Rs : List Addr} {ks : List Nat} {us : List (List Value)} {i : Nat}, i < Rs.length → ks.length = Rs.length → us.length = Rs.length → (Rs.getD i 0, listOf (us.getD i []).toArray (ks.getD i 0)) ∈ rowsLed Rs ks us
  | R :: Rs, k :: ks, u :: us, 0, _, _, _ => .head _
  | R :: Rs, k :: ks, u :: us, i + 1, h, h1, h2 => by
    simp only [List.length_cons] at h h1 h2
    exact .tail _ (rowsLed_mem (Rs := Rs) (by omega) (by omega) (by omega))
  | [], _, _, _, h, _, _ => absurd h (Nat.not_lt_zero _)
  | _ :: _, [], _, _, _, h, _ => by simp at h
  | _ :: _, _ :: _, [], _, _, _, h => by simp at h
theorem rowsLed_fst : ∀ {Rs : List Addr} {ks : List Nat} {us : List (List Value)}, ks.length = Rs.length → us.length = Rs.length → (rowsLed Rs ks us).map (·.1) = Rs
  | [], _, _, _, _ => rfl
  | R :: Rs, k :: ks, u :: us, h1, h2 => by
    simp only [List.length_cons] at h1 h2
    show R :: (rowsLed Rs ks us).map (·.1) = _
    rw [rowsLed_fst (Rs := Rs) (by omega) (by omega)]
  | _ :: _, [], _, h, _ => by simp at h
  | _ :: _, _ :: _, [], _, h => by simp at h
theorem rowsLed_set : ∀ {Rs : List Addr} {ks : List Nat} {us : List (List Value)} {i : Nat} {v : List Value} {p : Addr × Obj}, Rs.Nodup → i < Rs.length → ks.length = Rs.length → us.length = Rs.length → p ∈ rowsLed Rs ks (us.set i v) → p = (Rs.getD i 0, listOf v.toArray (ks.getD i 0)) ∨ (p ∈ rowsLed Rs ks us ∧ p.1 ≠ Rs.getD i 0)
  | R :: Rs, k :: ks, u :: us, 0, v, p, hd, _, h1, h2, hp => by
    rcases List.mem_cons.mp hp with rfl | hp
    · exact .inl rfl
    · refine .inr ⟨.tail _ hp, fun e => ?_⟩
      simp only [List.length_cons] at h1 h2
      have hm : p.1 ∈ (rowsLed Rs ks us).map (·.1) := List.mem_map_of_mem hp
      rw [rowsLed_fst (by omega) (by omega)] at hm
      have e' : p.1 = R := e
      rw [e'] at hm
      exact (List.nodup_cons.mp hd).1 hm
  | R :: Rs, k :: ks, u :: us, i + 1, v, p, hd, h, h1, h2, hp => by
    simp only [List.length_cons] at h h1 h2
    rcases List.mem_cons.mp hp with rfl | hp
    · refine .inr ⟨.head _, fun e => ?_⟩
      have e' : R = Rs.getD i 0 := e
      refine (List.nodup_cons.mp hd).1 ?_
      rw [e', List.getD_eq_getElem?_getD, List.getElem?_eq_getElem (by omega)]
      exact List.getElem_mem _
    · rcases rowsLed_set (List.nodup_cons.mp hd).2 (by omega) (by omega) (by omega) hp with e | ⟨e, f⟩
      · exact .inl e
      · exact .inr ⟨.tail _ e, f⟩
  | [], _, _, _, _, _, _, h, _, _, _ => absurd h (Nat.not_lt_zero _)
  | _ :: _, [], _, _, _, _, _, _, h, _, _ => by simp at h
  | _ :: _, _ :: _, [], _, _, _, _, _, _, h, _ => by simp at h
theorem ints_at : ∀ {us : List Value} {ns : List Int} {j : Nat}, IntsAre us ns → j < ns.length → ∃ t, us[j]? = some (.int (ns.getD j 0) t)
  | _, _, j, .nil, h => absurd h (Nat.not_lt_zero _)
  | _, _, 0, .cons n t _, _ => ⟨t, rfl⟩
  | _, _, j + 1, .cons n t hI, h => by
    simp only [List.length_cons] at h
    obtain ⟨t', ht⟩ := ints_at (j := j) hI (by omega)
    exact ⟨t', ht⟩
theorem ints_set : ∀ {us : List Value} {ns : List Int} {j : Nat} {v : Int} {t : Tok}, IntsAre us ns → IntsAre (us.set j (.int v t)) (ns.set j v)
  | _, _, j, v, t, .nil => by simpa using IntsAre.nil
  | _, _, 0, v, t, .cons n t' hI => .cons _ _ hI
  | _, _, j + 1, v, t, .cons n t' hI => .cons _ _ (ints_set hI)
theorem range_getD {f : Nat → Int} {n j : Nat} (h : j < n) : ((List.range n).map f).getD j 0 = f j := by
  simp [List.getD_eq_getElem?_getD, h]
noncomputable def setT (T : Nat → Nat → Int) (i j : Nat) (v : Int) : Nat → Nat → Int := fun x y => if x = i ∧ y = j then v else T x y
theorem range_set {f : Nat → Int} {n j : Nat} {v : Int} : ((List.range n).map f).set j v = (List.range n).map fun y => if y = j then v else f y := by
  apply List.ext_getElem?
  intro y
  simp only [List.getElem?_set, List.length_map, List.length_range, List.getElem?_map]
  by_cases h : j = y
  · subst h
    by_cases hj : j < n
    · simp [hj, List.getElem?_range]
    · simp [hj, List.getElem?_eq_none]
  · rw [if_neg h]
    by_cases hy : y < n
    · simp [hy, List.getElem?_range, Ne.symm h]
    · simp [hy, List.getElem?_eq_none]
theorem TabOk.set {us : List (List Value)} {T : Nat → Nat → Int} {n i j : Nat} {v : Int} {t : Tok} (h : TabOk us T n) (hi : i < n) : TabOk (us.set i ((us.getD i []).set j (.int v t))) (setT T i j v) n := by
  refine ⟨by rw [List.length_set]; exact h.len, fun x hx => ?_⟩
  by_cases e : x = i
  · subst e
    have e1 : (us.set x ((us.getD x []).set j (.int v t))).getD x [] = (us.getD x []).set j (.int v t) := by
      rw [List.getD_eq_getElem?_getD, List.getElem?_set_self (by rw [h.len]; exact hx)]; rfl
    rw [e1]
    have := ints_set (j := j) (v := v) (t := t) (h.row x hx)
    rw [range_set] at this
    have e2 : (fun y => if y = j then v else T x y) = setT T x j v x := by
      funext y; unfold setT; simp
    rw [e2] at this
    exact this
  · have e1 : (us.set i ((us.getD i []).set j (.int v t))).getD x [] = us.getD x [] := by
      rw [List.getD_eq_getElem?_getD, List.getElem?_set_ne (Ne.symm e)]; rfl
    rw [e1]
    have e2 : setT T i j v x = T x := by
      funext y; unfold setT; rw [if_neg fun q => e q.1]
    rw [e2]
    exact h.row x hx
theorem TabOk.congr {us : List (List Value)} {T T' : Nat → Nat → Int} {n : Nat} (h : TabOk us T n) (e : ∀ x y, x < n → y < n → T x y = T' x y) : TabOk us T' n := by
  refine ⟨h.len, fun i hi => ?_⟩
  have : (List.range n).map (T' i) = (List.range n).map (T i) := List.map_congr_left fun y hy => (e i y hi (List.mem_range.mp hy)).symm
  rw [this]
  exact h.row i hi

section
variable {prog : Program} {w : World} {A : Around} {E : Value → Shared → Prop} {s : Shared} {g : Heap} {L : Addr} {m : Str → Option Value} {news : List (Addr × Obj)}
/-- a row of the table -/
theorem row_item {value slice : PySem.Expr} {TB : Addr} {Rs : List Addr} {kT : Nat} {k : Int} {u : Tok} {Q : Value → Shared → Prop}
    (N : News g L s.heap news) (hm : (TB, listOf (Rs.map Value.ref).toArray kT) ∈ news) (h0 : 0 ≤ k) (h1 : k < Rs.length) (hl : Rs.length ≤ 5) (h : Q (.ref (Rs.getD k.toNat 0)) s)
    (hs : subscripted slice false (.ref TB) (.int k u) = operate [.ref TB, .int k u] (getItem (.ref TB) (.int k u)) := by with_unfolding_all rfl) :
    wpAny (model prog w) A (subscriptTail value slice (.ref TB) (.int k u)) Q E s := by
  have hL : s.heap.IsList TB (Rs.map Value.ref).toArray := ⟨_, (N _ hm).1, rfl, _, rfl⟩
  refine tail_any hL.typeIs slot_list_getitem.lookup (wpAny_getItem_list hL h0 (by omega) ?_ h) hs
  have hk : k.toNat < Rs.length := by omega
  simp [List.getElem?_map, List.getD_eq_getElem?_getD, hk]
/-- a cell of a row -/
theorem cell_item {value slice : PySem.Expr} {Rs : List Addr} {ks : List Nat} {us : List (List Value)} {T : Nat → Nat → Int} {n i : Nat} {j : Int} {u : Tok} {Q : Value → Shared → Prop}
    (N : News g L s.heap news) (hm : ∀ p ∈ rowsLed Rs ks us, p ∈ news) (hT : TabOk us T n) (hR : Rs.length = n) (hk : ks.length = n) (hn : n ≤ 5) (hi : i < n) (h0 : 0 ≤ j) (h1 : j < n) (h : ∀ t, Q (.int (T i j.toNat) t) s)
    (hs : subscripted slice false (.ref (Rs.getD i 0)) (.int j u) = operate [.ref (Rs.getD i 0), .int j u] (getItem (.ref (Rs.getD i 0)) (.int j u)) := by with_unfolding_all rfl) :
    wpAny (model prog w) A (subscriptTail value slice (.ref (Rs.getD i 0)) (.int j u)) Q E s := by
  have z := (N _ (hm _ (rowsLed_mem (by omega) (by omega) (by rw [hT.len, hR]) (i := i)))).1
  have hL : s.heap.IsList (Rs.getD i 0) (us.getD i []).toArray := ⟨_, z, rfl, _, rfl⟩
  obtain ⟨t, ht⟩ := ints_at (j := j.toNat) (hT.row i hi) (by rw [List.length_map, List.length_range]; omega)
  rw [range_getD (by omega)] at ht
  exact tail_any hL.typeIs slot_list_getitem.lookup (wpAny_getItem_list hL h0 (by omega) (by simpa using ht) (h t)) hs
/-- a store into a cell -/
theorem cell_set {Rs : List Addr} {ks : List Nat} {us : List (List Value)} {T : Nat → Nat → Int} {n i : Nat} {j v : Int} {u t : Tok} {keep : List (Addr × Obj)} {Q : Unit → Shared → Prop}
    (F : Fr g L s.heap m) (N : News g L s.heap news) (hm : ∀ p ∈ rowsLed Rs ks us, p ∈ news) (hT : TabOk us T n) (hR : Rs.length = n) (hk : ks.length = n) (hnd : Rs.Nodup) (hn : n ≤ 5) (hi : i < n) (h0 : 0 ≤ j) (h1 : j < n)
    (hkp : ∀ p ∈ keep, p ∈ news ∧ p.1 ∉ Rs)
    (h : ∀ us' h', TabOk us' (setT T i j.toNat v) n → Fr g L h' m → News g L h' (keep ++ rowsLed Rs ks us') → Q () { s with heap := h' }) :
    wpAny (model prog w) A (setItem (.ref (Rs.getD i 0)) (.int j u) (.int v t)) Q E s := by
  have hri : Rs.getD i 0 ∈ Rs := by
    rw [List.getD_eq_getElem?_getD, List.getElem?_eq_getElem (by omega)]; exact List.getElem_mem _
  have hlen : us.length = Rs.length := by rw [hT.len, hR]
  have z := N _ (hm _ (rowsLed_mem (by omega) (by omega) hlen (i := i)))
  have hil : (us.getD i []).length = n := by
    have := (hT.row i hi).length
    rw [this, List.length_map, List.length_range]
  refine ki_setAt z.1 h0 (by omega) (by rw [List.size_toArray, hil]; exact h1) ?_
  refine h (us.set i ((us.getD i []).set j.toNat (.int v t))) _ (hT.set hi) (F.change (Heap.SameBut.update ..) z.2.1 z.2.2) fun p hp => ?_
  have other : ∀ q, q ∈ news → q.1 ≠ Rs.getD i 0 → (s.heap.update (Rs.getD i 0) (Obj.mapSeq (·.setIfInBounds j.toNat (.int v t)))).get? q.1 = some q.2 := fun q hq hne => ((Heap.SameBut.update s.heap (Rs.getD i 0) _).2 _ hne).trans (N q hq).1
  rcases List.mem_append.mp hp with hp | hp
  · obtain ⟨hq, hne⟩ := hkp p hp
    exact ⟨other p hq fun e => hne (e ▸ hri), (N p hq).2⟩
  · rcases rowsLed_set hnd (by omega) (by omega) hlen hp with rfl | ⟨hp, hne⟩
    · refine ⟨?_, z.2⟩
      have q := PySem.IsL.update z.1 (fun a => a.setIfInBounds j.toNat (.int v t))
      have e1 : ((us.getD i []).toArray.setIfInBounds j.toNat (.int v t)) = ((us.getD i []).set j.toNat (.int v t)).toArray := by simp
      have e2 : (if (((us.getD i []).set j.toNat (.int v t)).toArray.size == (us.getD i []).toArray.size) = true then ks.getD i 0 else ks.getD i 0 + 1) = ks.getD i 0 := by simp
      rw [e1, e2] at q
      exact q
    · exact ⟨other p (hm p hp) hne, (N p (hm p hp)).2⟩
end
theorem Fr.kst {g h : Heap} {L : Addr} {m : Str → Option Value} (ps : List (Str × Value)) (F : Fr g L h m) (hp : ∀ p ∈ ps, m p.1 = some p.2) : Fr g L h (kstB m ps) := by
  have e : kstB m ps = m := by
    funext z
    exact kstB_eq hp fun _ => rfl
  rw [e]; exact F
end Mine

-- FL3
open PySem PySem.W PyProof.Rows PyProof
set_option Elab.async false
set_option maxRecDepth 100000
set_option maxHeartbeats 8000000
set_option pp.deepTerms false
set_option pp.deepTerms.threshold 6
set_option rowWalk.seconds 0
namespace Mine
local macro_rules | `(tactic| walk_at "subscriptTail Name Slice str ref") => `(tactic| (refine slice_bo (by assumption) (by assumption) (by size_fits) ?_; intros))
structure Room (dp un : Nat) : Prop where
  d : dp + 3 < recursionLimit
  u : un + 16 < cLine
theorem lev_tail {w : World} {p : Program} {loose : List Str} {mean : ExcName → Option Value} {mg mb : Str → Option Value} {dp un : Nat} {gd : Option (List Code)} {cn : Str} {cs : Scope} {L a : Addr} {ccd cdv : Value} {cl : List (Str × Addr)} {outer : List Env} {base g : Heap} {L' : Addr} {s : Shared} {m₀ : Str → Option Value} {Q : Flow → Shared → Prop} {E : Value → Shared → Prop} {a2 b2 : Str} {b : Int} {ta tb2 tb : Tok}
    (B' : Below (ktrTop dp un gd cn cs L a ccd cl outer) base (envX cn cs L a ccd cl :: outer) g) (F' : Fr g L' s.heap (kstB m₀ [(Str.ofString "a", .str a2 ta), (Str.ofString "b", .str b2 tb2), (Str.ofString "max_cost", .int b tb)])) (N' : News g L' s.heap []) (X' : (hd1.heap_1 w.params).In g) (T' : Top p loose mean mg mb g)
    (hroom : Room dp un)
    (hla : a2.length ≤ 40) (hlb : b2.length ≤ 40)
    (hret : ∀ h' tk' m' t r, r = levG (tl a2) (tl b2) b → Fr g L' h' m' → Q (.ret (.int r t)) { s with heap := h', toks := tk' }) :
    wpAny (model PySem.Challenge.rw_rs0157_01.prog w) ((ktrTop dp un gd cn cs L a ccd cl outer).deeper (levEnv w.params L' cdv)) (execs ((fnBodyAt w.params 28).drop 9) (levEnv w.params L' cdv)) Q
      (fun e s' => wpAny (model PySem.Challenge.rw_rs0157_01.prog w) ((ktrTop dp un gd cn cs L a ccd cl outer).deeper (levEnv w.params L' cdv)) (leaving (levEnv w.params L' cdv) e) (fun _ s'' => E e s'') (fun e' s'' => E e' s'') s') s := by
  revert X'
  k_fill
  intro X'
  k_with_none
  w_top off
  generalize hbody : (fnBodyAt w.params 28).drop 9 = body
  unfold levEnv
  generalize hscope : fnScopeAt w.params 28 = sc
  conv at hbody => lhs; whnf
  conv at hscope => lhs; whnf
  subst hbody hscope
  dsimp only [kstB] at F'
  (try dsimp only); (try k_fold)
  (repeat' ((fail_if_success (with_reducible show wpAny _ _ (execs (Stmt.If _ [Stmt.Assign _ _ _] _ _ :: _) _) _ _ _)); first | (k_unfold; (try dsimp only)) | walk1 | (dsimp only; walk1) | (leave1; try dsimp only)))
  · dsimp only
    refine cutF (σ := (Str × Nat) × (Str × Nat)) (fun _ => []) (fun c => [(Str.ofString "a", .str c.1.1 c.1.2), (Str.ofString "b", .str c.2.1 c.2.2)]) [] (fun c => (c.1.1.length : Int) ≤ c.2.1.length ∧ c.2.1.length ≤ 40 ∧ 0 < c.1.1.length ∧ levG (tl a2) (tl b2) b = (if ((c.2.1.length : Int) - c.1.1.length) * 2 > b then b + 1 else levCore (tl c.1.1) (tl c.2.1) b)) (by assumption) (by assumption) ?_ ?_
    · k_fold
      (repeat' ((fail_if_success (with_reducible show wpAny _ _ (execs (Stmt.Assign [PySem.Expr.Name (Str.ofString "row") _] _ _ :: _) _) _ _ _)); (fail_if_success (with_reducible show wpAny _ _ (execs (Stmt.While _ _ _ _ :: _) _) _ _ _)); (fail_if_success (with_reducible show wpAny _ _ (execs (Stmt.For _ _ _ _ _ :: _) _) _ _ _)); first | (k_unfold; (try dsimp only)) | walk1 | (dsimp only; walk1) | (leave1; try dsimp only)))
      · refine Hand.mk ((_, _), (_, _)) (by assumption) (by assumption) (fun _ h => List.Mem.tail _ h) (by kst_all) (by ksw_same) ?_
        exact ⟨by dsimp only; omega, by dsimp only; omega, by dsimp only; omega, levG_swap (by assumption) (by assumption) (by assumption)⟩
      · refine Hand.mk ((_, _), (_, _)) (by assumption) (by assumption) (fun _ h => h) (by kst_all) (by ksw_same) ?_
        exact ⟨by dsimp only; omega, by dsimp only; omega, by dsimp only; omega, levG_stay (by assumption) (by assumption) (by assumption)⟩
    · intro c u h tk hD3 F N
      obtain ⟨⟨a3, ta3⟩, ⟨b3, tb3⟩⟩ := c
      dsimp only [kstB] at F hD3
      obtain ⟨hr0, hr1, hr2, hr3⟩ := hD3
      (repeat' ((fail_if_success (with_reducible show wpAny _ _ (execs (Stmt.Assign [PySem.Expr.Name (Str.ofString "row") _] _ _ :: _) _) _ _ _)); (fail_if_success (with_reducible show wpAny _ _ (execs (Stmt.While _ _ _ _ :: _) _) _ _ _)); (fail_if_success (with_reducible show wpAny _ _ (execs (Stmt.For _ _ _ _ _ :: _) _) _ _ _)); first | (k_unfold; (try dsimp only)) | walk1 | (dsimp only; walk1) | (leave1; try dsimp only)))
      · exact hret _ _ _ _ _ (hr3.trans (if_pos (by omega))).symm (by assumption)
      · rw [if_neg (by omega)] at hr3
        rename Fr g L' _ _ => FF
        rename News g L' _ _ => NN
        refine lev_core (a3 := a3) (b3 := b3) (b := b) B' (Fr.kst _ FF (List.forall_mem_cons.mpr ⟨rfl, List.forall_mem_cons.mpr ⟨rfl, List.forall_mem_cons.mpr ⟨rfl, List.forall_mem_nil _⟩⟩⟩)) NN X' T' hroom.1 hroom.2 (by omega) (by omega) (by omega) ?_
        intro h' tk' m' t r hr F'
        exact hret _ _ _ _ _ (hr.trans hr3.symm) F'
  · exact hret _ _ _ _ _ (levG_nil (by omega)).symm (by assumption)
  · exact hret _ _ _ _ _ (levG_nil (by omega)).symm (by assumption)
theorem lev_suf {w : World} {p : Program} {loose : List Str} {mean : ExcName → Option Value} {mg mb : Str → Option Value} {dp un : Nat} {gd : Option (List Code)} {cn : Str} {cs : Scope} {L a : Addr} {ccd cdv : Value} {cl : List (Str × Addr)} {outer : List Env} {base g : Heap} {L' : Addr} {s : Shared} {m₀ : Str → Option Value} {Q : Flow → Shared → Prop} {E : Value → Shared → Prop} {A B : Str} {b : Int} {ta tb2 tb : Tok}
    (B' : Below (ktrTop dp un gd cn cs L a ccd cl outer) base (envX cn cs L a ccd cl :: outer) g) (F' : Fr g L' s.heap (kstB m₀ [(Str.ofString "a", .str A ta), (Str.ofString "b", .str B tb2), (Str.ofString "max_cost", .int b tb)])) (N' : News g L' s.heap []) (X' : (hd1.heap_1 w.params).In g) (T' : Top p loose mean mg mb g)
    (hroom : Room dp un)
    (hla : A.length ≤ 40) (hlb : B.length ≤ 40)
    (hret : ∀ h' tk' m' t r, r = levG ((tl A).take ((tl A).length - cp (tl A).reverse (tl B).reverse)) ((tl B).take ((tl B).length - cp (tl A).reverse (tl B).reverse)) b → Fr g L' h' m' → Q (.ret (.int r t)) { s with heap := h', toks := tk' }) :
    wpAny (model PySem.Challenge.rw_rs0157_01.prog w) ((ktrTop dp un gd cn cs L a ccd cl outer).deeper (levEnv w.params L' cdv)) (execs ((fnBodyAt w.params 28).drop 5) (levEnv w.params L' cdv)) Q
      (fun e s' => wpAny (model PySem.Challenge.rw_rs0157_01.prog w) ((ktrTop dp un gd cn cs L a ccd cl outer).deeper (levEnv w.params L' cdv)) (leaving (levEnv w.params L' cdv) e) (fun _ s'' => E e s'') (fun e' s'' => E e' s'') s') s := by
  revert X'
  k_fill
  intro X'
  k_with_none
  k_with "state" => first | exact ⟨by omega, by omega, by omega, slen_neg (by omega) (by omega), slen_neg (by omega) (by omega), SufW.start _ _⟩ | exact ⟨by omega, by omega, by omega, slen_neg (by omega) (by omega), slen_neg (by omega) (by omega), SufW.turn (by assumption) (by omega) (by omega) (by assumption)⟩
  generalize hbody : (fnBodyAt w.params 28).drop 5 = body
  unfold levEnv
  generalize hscope : fnScopeAt w.params 28 = sc
  conv at hbody => lhs; whnf
  conv at hscope => lhs; whnf
  subst hbody hscope
  dsimp only [kstB] at F'
  (try dsimp only); (try k_fold)
  (repeat' ((fail_if_success (with_reducible show wpAny _ _ (execs (Stmt.Assign [PySem.Expr.Name (Str.ofString "row") _] _ _ :: _) _) _ _ _)); (fail_if_success (with_reducible show wpAny _ _ (execs (Stmt.While _ _ _ _ :: _) _) _ _ _)); (fail_if_success (with_reducible show wpAny _ _ (execs (Stmt.For _ _ _ _ _ :: _) _) _ _ _)); first | (k_unfold; (try dsimp only)) | walk1 | (dsimp only; walk1) | (leave1; try dsimp only)))
  refine cutF (σ := Int × Nat) (fun _ => []) (fun c => [(Str.ofString "post", .int c.1 c.2)]) [] (fun c => c.1 ≤ 0 ∧ -c.1 ≤ A.length ∧ -c.1 ≤ B.length ∧ -c.1 = (cp (tl A).reverse (tl B).reverse : Nat)) (by assumption) (by assumption) ?_ ?_
  · k_fold
    k_while (fun _ i => i ≤ 0 ∧ -i ≤ A.length ∧ -i ≤ B.length ∧ (i ≠ 0 → ((Txt.slice A none (some i)).length : Int) = A.length + i) ∧ (i ≠ 0 → ((Txt.slice B none (some i)).length : Int) = B.length + i) ∧ SufW A B i) (fun _ i => A.length - (-i).toNat) "post"
    (repeat' ((fail_if_success (with_reducible show wpAny _ _ (execs (Stmt.Assign [PySem.Expr.Name (Str.ofString "row") _] _ _ :: _) _) _ _ _)); (fail_if_success (with_reducible show wpAny _ _ (execs (Stmt.While _ _ _ _ :: _) _) _ _ _)); (fail_if_success (with_reducible show wpAny _ _ (execs (Stmt.For _ _ _ _ _ :: _) _) _ _ _)); first | (k_unfold; (try dsimp only)) | walk1 | (dsimp only; walk1) | (leave1; try dsimp only)))
    all_goals (try (((refine Hand.mk (_, _) (by assumption) (by assumption) (fun _ h => h) (by kst_all) (by ksw_same) ?_; (try dsimp only))); refine ⟨by omega, by omega, by omega, ?_⟩; first | exact SufW.stop (by assumption) (by omega) (by omega) (by assumption) | exact SufW.stopx (by assumption) (by omega) | exact SufW.stopy (by assumption) (by omega)))
  · intro c u h tk hD F N
    obtain ⟨post, tpost⟩ := c
    dsimp only [kstB] at F hD
    obtain ⟨hq0, hq1, hq2, hq3⟩ := hD
    refine cutF (σ := Str × Nat) (fun _ => []) (fun c => [(Str.ofString "a", .str c.1 c.2)]) [] (fun c => c.1.length ≤ 40 ∧ tl c.1 = (tl A).take ((tl A).length - cp (tl A).reverse (tl B).reverse)) (by assumption) (by assumption) ?_ ?_
    · k_fold
      (repeat' ((fail_if_success (with_reducible show wpAny _ _ (execs (Stmt.Assign [PySem.Expr.Name (Str.ofString "row") _] _ _ :: _) _) _ _ _)); (fail_if_success (with_reducible show wpAny _ _ (execs (Stmt.While _ _ _ _ :: _) _) _ _ _)); (fail_if_success (with_reducible show wpAny _ _ (execs (Stmt.For _ _ _ _ _ :: _) _) _ _ _)); first | (k_unfold; (try dsimp only)) | walk1 | (dsimp only; walk1) | (leave1; try dsimp only)))
      all_goals (((refine Hand.mk (_, _) (by assumption) (by assumption) (fun _ h => h) (by kst_all) (by ksw_same) ?_; (try dsimp only))); refine ⟨by omega, ?_⟩; first | exact sl_opt (by omega) (by omega) (by omega) (by omega) | exact sl_opt0 (by omega) (by omega))
    · intro c u h tk hD F N
      obtain ⟨a2, ta2⟩ := c
      dsimp only [kstB] at F hD
      refine cutF (σ := Str × Nat) (fun _ => []) (fun c => [(Str.ofString "b", .str c.1 c.2)]) [] (fun c => c.1.length ≤ 40 ∧ tl c.1 = (tl B).take ((tl B).length - cp (tl A).reverse (tl B).reverse)) (by assumption) (by assumption) ?_ ?_
      · k_fold
        (repeat' ((fail_if_success (with_reducible show wpAny _ _ (execs (Stmt.Assign [PySem.Expr.Name (Str.ofString "row") _] _ _ :: _) _) _ _ _)); (fail_if_success (with_reducible show wpAny _ _ (execs (Stmt.While _ _ _ _ :: _) _) _ _ _)); (fail_if_success (with_reducible show wpAny _ _ (execs (Stmt.For _ _ _ _ _ :: _) _) _ _ _)); first | (k_unfold; (try dsimp only)) | walk1 | (dsimp only; walk1) | (leave1; try dsimp only)))
        all_goals (((refine Hand.mk (_, _) (by assumption) (by assumption) (fun _ h => h) (by kst_all) (by ksw_same) ?_; (try dsimp only))); refine ⟨by omega, ?_⟩; first | exact sl_opt (by omega) (by omega) (by omega) (by omega) | exact sl_opt0 (by omega) (by omega))
      · intro c u h tk hD2 F N
        obtain ⟨b2, tb2⟩ := c
        dsimp only [kstB] at F hD2
        obtain ⟨hla, hD⟩ := hD
        obtain ⟨hlb, hD2⟩ := hD2
        rename Fr g L' _ _ => FF
        rename News g L' _ _ => NN
        refine lev_tail (a2 := a2) (b2 := b2) (b := b) B' (Fr.kst _ FF (List.forall_mem_cons.mpr ⟨rfl, List.forall_mem_cons.mpr ⟨rfl, List.forall_mem_cons.mpr ⟨rfl, List.forall_mem_nil _⟩⟩⟩)) NN X' T' hroom hla hlb ?_
        rw [hD, hD2]
        exact hret
theorem levF_cut {x y : Str} {pre : Int} {b : Int} (hxy : (x == y) = false) (h0 : 0 ≤ pre) (h1 : pre ≤ x.length) (h2 : pre ≤ y.length) (h3 : pre = (cp (tl x) (tl y) : Nat)) :
    levF (tl x) (tl y) b = levG ((tl (Txt.slice x (some pre) none)).take ((tl (Txt.slice x (some pre) none)).length - cp (tl (Txt.slice x (some pre) none)).reverse (tl (Txt.slice y (some pre) none)).reverse)) ((tl (Txt.slice y (some pre) none)).take ((tl (Txt.slice y (some pre) none)).length - cp (tl (Txt.slice x (some pre) none)).reverse (tl (Txt.slice y (some pre) none)).reverse)) b := by
  have tt : ∀ l : List Nat, tl (⟨l.toArray⟩ : Str) = l := fun l => by simp [tl]
  have := levF_eq (a2 := ⟨((tl (Txt.slice x (some pre) none)).take ((tl (Txt.slice x (some pre) none)).length - cp (tl (Txt.slice x (some pre) none)).reverse (tl (Txt.slice y (some pre) none)).reverse)).toArray⟩) (b2 := ⟨((tl (Txt.slice y (some pre) none)).take ((tl (Txt.slice y (some pre) none)).length - cp (tl (Txt.slice x (some pre) none)).reverse (tl (Txt.slice y (some pre) none)).reverse)).toArray⟩) (b := b) hxy h0 h1 h2 h3 (tt _) (tt _)
  rwa [tt, tt] at this
theorem lev_ok {w : World} {p : Program} {loose : List Str} {mean : ExcName → Option Value} {mg mb : Str → Option Value} (x y : Str) (b : Int) (tx ty tb : Tok) :
  Pure PySem.Challenge.rw_rs0157_01.prog w (hd1.heap_1 w.params) p loose mean mg mb 28 3 16 [.str x tx, .str y ty, .int b tb] (fun _ => x.length ≤ 40 ∧ y.length ≤ 40) (IsV fun t => .int (levF (tl x) (tl y) b) t) := by
  k_fill
  k_with_none
  k_with "state" => first | exact ⟨by omega, by omega, by omega, PreW.start _ _⟩ | exact ⟨by omega, by omega, by omega, PreW.turn (by assumption) (by omega) (by omega) (by assumption)⟩
  intro dp un gd cn cs a ccd cl outer A₀ base h₀ L m s Q E hB hF hX hT hcs hdp hun hpre hret
  refine wpAny_call ?_
  ((k_dflt (refine' code_pure ?k1 ?k2 ?k3 ?k5 ?kA ?kF ?kK ?k6 ?k7 ?k8 ?k9 ?kB ?_ ?c2 ?c3 ?c4 ?c5; (case kA => exact rfl); (case kF => exact rfl); (case kK => assumption); (case k1 => k_asm); (case k2 => k_asm); (case k3 => k_asm); (case k5 => k_asm); (case k6 => k_is); (case k7 => k_is); (case k8 => (show _ < _; dsimp only; omega)); (case k9 => exact BindsTo.of_eq rfl); (case c5 => decide); (case kB => exact locs rfl); (case c2 => exact rfl); (case c3 => exact rfl); (case c4 => exact rfl); k_whole)))
  intro g L' h₁ hg F' N' B' X' T'
  have hroom : Room dp un := ⟨hdp, hun⟩
  clear hdp hun
  (try dsimp only); (try k_fold)
  (repeat' ((fail_if_success (with_reducible show wpAny _ _ (execs (Stmt.Assign [PySem.Expr.Name (Str.ofString "row") _] _ _ :: _) _) _ _ _)); (fail_if_success (with_reducible show wpAny _ _ (execs (Stmt.While _ _ _ _ :: _) _) _ _ _)); (fail_if_success (with_reducible show wpAny _ _ (execs (Stmt.For _ _ _ _ _ :: _) _) _ _ _)); first | (k_unfold; (try dsimp only)) | walk1 | (dsimp only; walk1) | (leave1; try dsimp only)))
  · exact hret _ _ _ (stays_of hg (by assumption)) (isV_int (levF_same (by assumption)).symm)
  · rename (x == y) = false => hxy
    refine cutF (σ := Int × Nat) (fun _ => []) (fun c => [(Str.ofString "pre", .int c.1 c.2)]) [] (fun c => 0 ≤ c.1 ∧ c.1 ≤ x.length ∧ c.1 ≤ y.length ∧ c.1 = (cp (tl x) (tl y) : Nat)) (by assumption) (by assumption) ?_ ?_
    · k_fold
      k_while (fun _ pre => 0 ≤ pre ∧ pre ≤ x.length ∧ pre ≤ y.length ∧ PreW x y pre) (fun _ pre => x.length - pre.toNat) "pre"
      (repeat' ((fail_if_success (with_reducible show wpAny _ _ (execs (Stmt.Assign [PySem.Expr.Name (Str.ofString "row") _] _ _ :: _) _) _ _ _)); (fail_if_success (with_reducible show wpAny _ _ (execs (Stmt.While _ _ _ _ :: _) _) _ _ _)); (fail_if_success (with_reducible show wpAny _ _ (execs (Stmt.For _ _ _ _ _ :: _) _) _ _ _)); first | (k_unfold; (try dsimp only)) | walk1 | (dsimp only; walk1) | (leave1; try dsimp only)))
      all_goals (((refine Hand.mk (_, _) (by assumption) (by assumption) (fun _ h => h) (by kst_all) (by ksw_same) ?_; (try dsimp only))); refine ⟨by omega, by omega, by omega, ?_⟩; first | exact PreW.stop (by assumption) (by omega) (by omega) (by assumption) | exact PreW.stopx (by assumption) (by omega) | exact PreW.stopy (by assumption) (by omega))
    · intro c u h tk hD F N
      obtain ⟨pre, tpre⟩ := c
      dsimp only [kstB] at F hD
      obtain ⟨hp0, hp1, hp2, hp3⟩ := hD
      (repeat' ((fail_if_success (with_reducible show wpAny _ _ (execs (Stmt.Assign [PySem.Expr.Name (Str.ofString "post") _] _ _ :: _) _) _ _ _)); (fail_if_success (with_reducible show wpAny _ _ (execs (Stmt.While _ _ _ _ :: _) _) _ _ _)); (fail_if_success (with_reducible show wpAny _ _ (execs (Stmt.For _ _ _ _ _ :: _) _) _ _ _)); first | (k_unfold; (try dsimp only)) | walk1 | (dsimp only; walk1) | (leave1; try dsimp only)))
      rename Fr g L' _ _ => FF
      rename News g L' _ _ => NN
      refine lev_suf (A := Txt.slice x (some pre) none) (B := Txt.slice y (some pre) none) (b := b) B' (Fr.kst _ FF (List.forall_mem_cons.mpr ⟨rfl, List.forall_mem_cons.mpr ⟨rfl, List.forall_mem_cons.mpr ⟨rfl, List.forall_mem_nil _⟩⟩⟩)) NN X' T' hroom (by omega) (by omega) ?_
      intro h' tk' m' t r hr F'
      exact hret _ _ _ (stays_of hg F') (isV_int (hr.trans (levF_cut hxy hp0 hp1 hp2 hp3).symm))
end Mine

-- F257
open PySem PySem.W PyProof.Rows PyProof
set_option Elab.async false
set_option maxRecDepth 100000
set_option maxHeartbeats 8000000
set_option pp.deepTerms false
set_option pp.deepTerms.threshold 6
set_option rowWalk.seconds 0
namespace Mine
theorem p257_ok {w : World} {p : Program} {loose : List Str} {mean : ExcName → Option Value} {mg mb : Str → Option Value} (x : Str) (tx : Tok) :
  Pure PySem.Challenge.rw_rs0157_01.prog w (hd1.heap_1 w.params) p loose mean mg mb 121 1 8 [.str x tx] (fun _ => 5 ≤ x.length ∧ x.length ≤ 1000 ∧ (tl x).take 5 = [50, 53, 55, 32, 34]) (IsV fun t => .str (st (scan ((tl x).drop 5))) t) := by
  k_fill
  k_with_none
  w_top off
  intro dp un gd cn cs a ccd cl outer A₀ base h₀ L m s Q E hB hF hX hT hcs hdp hun hpre hret
  refine wpAny_call ?_
  ((k_dflt (refine' code_pure ?k1 ?k2 ?k3 ?k5 ?kA ?kF ?kK ?k6 ?k7 ?k8 ?k9 ?kB ?_ ?c2 ?c3 ?c4 ?c5; (case kA => exact rfl); (case kF => exact rfl); (case kK => assumption); (case k1 => k_asm); (case k2 => k_asm); (case k3 => k_asm); (case k5 => k_asm); (case k6 => k_is); (case k7 => k_is); (case k8 => (show _ < _; dsimp only; omega)); (case k9 => exact BindsTo.of_eq rfl); (case c5 => decide); (case kB => exact locs rfl); (case c2 => exact rfl); (case c3 => exact rfl); (case c4 => exact rfl); k_whole)))
  intro g L' h₁ hg F' N' B' X' T'
  (try dsimp only); (try k_fold)
  obtain ⟨hl0, hl1, hop⟩ := hpre
  have ho1 := open257 hop hl0
  have ho2 := open257b hop hl0
  (repeat' ((fail_if_success (with_reducible show wpAny _ _ (exec (Stmt.While _ _ _ _) _) _ _ _)); first | (k_unfold; (try dsimp only)) | walk1 | (dsimp only; walk1) | (leave1; try dsimp only)))
  any_goals (try (rename (Txt.slice x none (some 3) != Str.ofString "257") = true => hb; rw [bne, ho1] at hb; cases hb; done))
  any_goals (try (rename (Txt.slice x (some 3) (some 5) != Str.ofString " \"") = true => hb; rw [bne, ho2] at hb; cases hb; done))
  · k_with "state" => first | exact ⟨by omega, by omega, by omega, ScanW.start _⟩ | exact ⟨by omega, by omega, by simp only [Str.length_append]; omega, ScanW.other (by assumption) (by omega) (by omega) (by assumption)⟩ | exact ⟨by omega, by omega, by simp only [Str.length_append]; omega, ScanW.two (by assumption) (by omega) (by omega) (by assumption) (by assumption)⟩
    k_while (fun _ i d => 5 ≤ i ∧ i ≤ x.length ∧ (d.length : Int) ≤ i ∧ ScanW x i d) (fun _ i _ => x.length - i.toNat) "i" "dirname"
    (repeat' ((fail_if_success (with_reducible show wpAny _ _ (exec (Stmt.While _ _ _ _) _) _ _ _)); first | (k_unfold; (try dsimp only)) | walk1 | (dsimp only; walk1) | (leave1; try dsimp only)))
    all_goals first | exact hret _ _ _ (stays_of hg (by assumption)) (isV_str (ScanW.stop (by assumption) (by assumption))) | exact hret _ _ _ (stays_of hg (by assumption)) (isV_str (ScanW.brkEnd (by assumption) (by omega) (by omega) (by omega) (by assumption))) | exact hret _ _ _ (stays_of hg (by assumption)) (isV_str (ScanW.brk (by assumption) (by omega) (by omega) (by assumption) (by assumption)))
end Mine

-- F229
open PySem PySem.W PyProof.Rows PyProof
set_option Elab.async false
set_option maxRecDepth 100000
set_option maxHeartbeats 8000000
set_option pp.deepTerms false
set_option pp.deepTerms.threshold 6
set_option rowWalk.seconds 0
namespace Mine
theorem p229_ok {w : World} {p : Program} {loose : List Str} {mean : ExcName → Option Value} {mg mb : Str → Option Value} (x host : Str) (tx th : Tok) (pa : Addr) (tp : Tok) (n : Int) :
  Pure PySem.Challenge.rw_rs0157_01.prog w (hd1.heap_1 w.params) p loose mean mg mb 114 1 8 [.str x tx, .ref pa] (fun h => IsTup h pa #[.str host th, .int 21 tp] ∧ Good229 x n) (NewObj (Tup2 host n)) := by
  k_fill
  k_with_none
  w_top off
  intro dp un gd cn cs a ccd cl outer A₀ base h₀ L m s Q E hB hF hX hT hcs hdp hun hpre hret
  refine wpAny_call ?_
  ((k_dflt (refine' code_pure ?k1 ?k2 ?k3 ?k5 ?kA ?kF ?kK ?k6 ?k7 ?k8 ?k9 ?kB ?_ ?c2 ?c3 ?c4 ?c5; (case kA => exact rfl); (case kF => exact rfl); (case kK => assumption); (case k1 => k_asm); (case k2 => k_asm); (case k3 => k_asm); (case k5 => k_asm); (case k6 => k_is); (case k7 => k_is); (case k8 => (show _ < _; dsimp only; omega)); (case k9 => exact BindsTo.of_eq rfl); (case c5 => decide); (case kB => exact locs rfl); (case c2 => exact rfl); (case c3 => exact rfl); (case c4 => exact rfl); k_whole)))
  intro g L' h₁ hg F' N' B' X' T'
  (try dsimp only); (try k_fold)
  obtain ⟨hpt, hG⟩ := hpre
  rw [← hg] at hpt
  have hl1 := hG.len
  have ho1 := hG.head
  have ho2 := hG.left
  have ho3 := hG.right
  have ho4 := hG.marks
  (repeat' (first | (k_unfold; (try dsimp only)) | walk1 | (dsimp only; walk1) | (leave1; try dsimp only)))
  any_goals (try (rename (Txt.slice x none (some 3) != Str.ofString "229") = true => hb; rw [bne, ho1] at hb; cases hb; done))
  any_goals (try (rename (List.length _ : Int) ≠ 5 => hlen; obtain ⟨a1, b1, c1, d1, e1, hsp, hd1, hd2⟩ := hG.parts; rename List.map _ _ = Txt.split _ _ => hsp'; have := congrArg List.length (hsp'.trans hsp); simp only [List.length_map, List.length_cons, List.length_nil] at this; omega; done))
  · rename List.map _ _ = Txt.split _ _ => hsp'
    rename _ = some _ => hy
    obtain ⟨a1, b1, c1, d1, e1, hsp, hd1, hd2⟩ := hG.parts
    rw [hsp', hsp] at hy
    obtain rfl : d1 = _ := Option.some.inj hy
    refine KIN.call_text hd1 hd2 ?_
    (repeat' (first | (k_unfold; (try dsimp only)) | walk1 | (dsimp only; walk1) | (leave1; try dsimp only)))
    exact hret _ _ _ (stays_of hg (by assumption)) (NewObj.of hg (by assumption) (List.Mem.head _) ⟨_, _, rfl⟩)
end Mine

-- FD1
open PySem PySem.W PyProof.Rows PyProof
set_option Elab.async false
set_option maxRecDepth 100000
set_option maxHeartbeats 8000000
set_option pp.deepTerms false
set_option pp.deepTerms.threshold 6
set_option rowWalk.seconds 0
namespace Mine
theorem div2_ok {w : World} {p : Program} {loose : List Str} {mean : ExcName → Option Value} {mg mb : Str → Option Value} (x y n : Int) (tx ty tn : Tok) :
  Pure PySem.Challenge.rw_rs0157_01.prog w (hd1.heap_1 w.params) p loose mean mg mb 35 1 8 [.int x tx, .int y ty, .int n tn] (fun _ => 0 ≤ x ∧ x < 2 ^ 60 ∧ 0 < y ∧ y < 2 ^ 30 ∧ 0 ≤ n) (NewObj (Tup2I (x.fdiv y) (x.fmod y))) := by
  k_fill
  k_with_none
  w_top off
  intro dp un gd cn cs a ccd cl outer A₀ base h₀ L m s Q E hB hF hX hT hcs hdp hun hpre hret
  refine wpAny_call ?_
  ((k_dflt (refine' code_pure ?k1 ?k2 ?k3 ?k5 ?kA ?kF ?kK ?k6 ?k7 ?k8 ?k9 ?kB ?_ ?c2 ?c3 ?c4 ?c5; (case kA => exact rfl); (case kF => exact rfl); (case kK => assumption); (case k1 => k_asm); (case k2 => k_asm); (case k3 => k_asm); (case k5 => k_asm); (case k6 => k_is); (case k7 => k_is); (case k8 => (show _ < _; dsimp only; omega)); (case k9 => exact BindsTo.of_eq rfl); (case c5 => decide); (case kB => exact locs rfl); (case c2 => exact rfl); (case c3 => exact rfl); (case c4 => exact rfl); k_whole)))
  intro g L' h₁ hg F' N' B' X' T'
  (try dsimp only); (try k_fold)
  obtain ⟨h0, h1, h2, h3, h4⟩ := hpre
  have hb := bits60 h0 h1
  (repeat' (first | (k_unfold; (try dsimp only)) | walk1 | (dsimp only; walk1) | (leave1; try dsimp only)))
  exact hret _ _ _ (stays_of hg (by assumption)) (NewObj.of hg (by assumption) (List.Mem.head _) ⟨_, _, rfl⟩)
end Mine

-- FDI
open PySem PySem.W PyProof.Rows PyProof
set_option Elab.async false
set_option maxRecDepth 100000
set_option maxHeartbeats 8000000
set_option pp.deepTerms false
set_option pp.deepTerms.threshold 6
set_option rowWalk.seconds 0
namespace Mine

noncomputable def fnAt (P : Params) (f : Addr) : List Stmt := match (hd1.heap_1 P).lookup f with
  | some ⟨_, _, .func fd, _⟩ => (match fd.body with | .stmts b => b | .expr _ => [])
  | _ => []
noncomputable def defPar : List Stmt → Arguments
  | .FunctionDef _ ps _ _ _ _ _ _ _ _ :: _ => ps
  | _ :: r => defPar r
  | [] => default
noncomputable def defBody : List Stmt → List Stmt
  | .FunctionDef _ _ b _ _ _ _ _ _ _ :: _ => b
  | _ :: r => defBody r
  | [] => default
noncomputable def defScope : List Stmt → Scope
  | .FunctionDef _ _ _ _ _ _ sc _ _ _ :: _ => sc
  | _ :: r => defScope r
  | [] => default
theorem fnAt_base {h₀ h : Heap} {L q : Addr} {m : Str → Option Value} {oc : Value} {od : Option Addr} {fd : FuncData} {sl : Array (Option Value)} (F : Fr h₀ L h m) (hq : h₀.get? q = some ⟨oc, od, .func fd, sl⟩) : FnAt q h := ⟨oc, od, fd, sl, F.keep _ _ hq⟩

theorem hide_keep {g h : Heap} {D b : Addr} {o oD : Obj} (hg : g = h.hide D) (hD : h.get? D = some oD) (hb : h.get? b = some o) (hne : o ≠ oD) : g.get? b = some o := by
  rw [hg]; exact (Heap.hide_ne _ (fun e => hne (by rw [e, hD] at hb; exact (Option.some.inj hb).symm))).trans hb
structure InSt (f D ca ci cn c' : Addr) (nm qual : Str) (par : Arguments) (body : List Stmt) (sc : Scope) (cl : List (Str × Addr)) (doc pm ctv : Value) (n : Nat) (tn : Tok) (h : Heap) : Prop where
  fn : h.get? f = some (fnMade nm qual par body sc cl doc pm c' ctv)
  code : h.CodeRec (.ref c') qual
  na : ∃ o, h.get? ca = some o ∧ o.data = .cell (some (.ref D))
  ni : ∃ o, h.get? ci = some o ∧ o.data = .cell (some (.ref f))
  nn : ∃ o, h.get? cn = some o ∧ o.data = .cell (some (.int n tn))
  lst : ∃ us c, h.get? D = some (listOf us c)

theorem Fr.staysBut {h₀ h h' : Heap} {L D : Addr} {m : Str → Option Value} (F : Fr h₀ L h m) (k : StaysBut D h h') (h0 : h₀.get? D = none) (hL : D ≠ L) : Fr h₀ L h' m := by
  obtain ⟨oL, a1, a2, e, a3⟩ := F.ns
  exact ⟨⟨oL, a1, a2, k _ _ (Ne.symm hL) e, a3⟩, fun b o q => k _ _ (fun z => by rw [z, h0] at q; cases q) (F.keep b o q), F.above⟩
theorem code_keep {g h : Heap} {D c' : Addr} {qual : Str} {us : Array Value} {c : Nat} (hg : g = h.hide D) (hD : h.get? D = some (listOf us c)) (hc : h.CodeRec (.ref c') qual) : g.CodeRec (.ref c') qual := by
  obtain ⟨c1, oc, vs, t, e1, e2, e3, e4⟩ := hc
  exact ⟨c1, oc, vs, t, e1, hide_keep hg hD e2 (by intro e; rw [e] at e3; cases e3), e3, e4⟩
theorem code_stays {g h : Heap} {c : Value} {qual : Str} (k : g.StaysIn h) (hc : g.CodeRec c qual) : h.CodeRec c qual := by
  obtain ⟨c1, oc, vs, t, e1, e2, e3, e4⟩ := hc
  exact ⟨c1, oc, vs, t, e1, k _ _ e2, e3, e4⟩
theorem mid_eq {lo hi : Int} {k : Nat} (h : hi - lo = k) : (lo + hi).fdiv (2 ^ Int.toNat 1) = lo + ((k / 2 : Nat) : Int) := by
  show (lo + hi).fdiv 2 = _
  rw [Int.fdiv_eq_ediv_of_nonneg _ (by decide)]
  omega
theorem low_lt {n i : Nat} (x : Nat) : ((x % 2 ^ (n * i) : Nat) : Int) < 2 ^ (n * i) := by
  have := Nat.mod_lt x (Nat.two_pow_pos (n * i))
  exact_mod_cast this
theorem high_lt {n i j k : Nat} {x : Int} (h0 : 0 ≤ x) (h : x < 2 ^ (n * k)) (e : k = i + j) : ((x.toNat / 2 ^ (n * i) : Nat) : Int) < 2 ^ (n * j) := by
  have h1 : x.toNat < 2 ^ (n * k) := by
    have : ((x.toNat : Nat) : Int) < ((2 ^ (n * k) : Nat) : Int) := by rw [Int.toNat_of_nonneg h0]; exact_mod_cast h
    exact_mod_cast this
  have h2 : x.toNat / 2 ^ (n * i) < 2 ^ (n * j) := by
    rw [Nat.div_lt_iff_lt_mul (Nat.two_pow_pos _), ← Nat.pow_add, ← Nat.mul_add, Nat.add_comm j i, ← e]
    exact h1
  exact_mod_cast h2
theorem up_lt {x : Int} {s : Nat} (h0 : 0 ≤ x) (h : x < 2 ^ 60) : 0 ≤ x.fdiv (2 ^ s) ∧ x.fdiv (2 ^ s) < 2 ^ 60 := by
  rw [shr_nat h0]
  have := Nat.div_le_self x.toNat (2 ^ s)
  generalize x.toNat / 2 ^ s = q at *
  omega
theorem mod_lt60 {x : Int} {s : Nat} (h0 : 0 ≤ x) (h : x < 2 ^ 60) : ((x.toNat % 2 ^ s : Nat) : Int) < 2 ^ 60 := by
  have := Nat.mod_le x.toNat (2 ^ s)
  generalize x.toNat % 2 ^ s = q at *
  omega
theorem put_all {ds : List Int} {lo : Int} {n i j k : Nat} {x : Nat} (h0 : 0 ≤ lo) (e : k = i + j) (hl : lo + k ≤ ds.length) : put (put ds lo.toNat (dg n (x % 2 ^ (n * i)) i)) (lo + (i : Int)).toNat (dg n (x / 2 ^ (n * i)) j) = put ds lo.toNat (dg n x k) := by
  rw [put_put (by rw [dg_len]; omega) (by rw [dg_len]; omega), ← dg_split, e]

noncomputable def InnerSpec (prog : Program) (w : World) (K : Frag) (p : Program) (loose : List Str) (mean : ExcName → Option Value) (mg mb : Str → Option Value) (f D : Addr) (St : Heap → Prop) (n k : Nat) : Prop :=
  ∀ (lo hi x : Int) (tx tlo thi : Tok) (us : List Value) (ds : List Int) (c : Nat) (dp un : Nat) (gd : Option (List Code)) (cn : Str) (cs : Scope) (a : Addr) (ccd : Value) (cl : List (Str × Addr)) (outer : List Env) (A₀ : Around) (base h₀ : Heap) (L : Addr) (m : Str → Option Value) (s : Shared) (Q E : Value → Shared → Prop),
    hi - lo = k → 0 ≤ lo → hi ≤ ds.length → ds.length ≤ 60 → 0 ≤ x → x < 2 ^ 60 → x < 2 ^ (n * k) →
    Below A₀ base outer h₀ → Fr h₀ L s.heap m → K.In h₀ → Top p loose mean mg mb h₀ → cs.kind = .function → dp + (k + 1) < recursionLimit → un + 3 * (k + 1) + 8 < cLine →
    St s.heap → s.heap.get? D = some (listOf us.toArray c) → h₀.get? D = none → D ≠ L → IntsAre us ds →
    (∀ us' h' tk', StaysBut D s.heap h' → h'.get? D = some (listOf us'.toArray c) → IntsAre us' (put ds lo.toNat (dg n x.toNat k)) → Q .none { s with heap := h', toks := tk' }) →
    wpAny (model prog w) (ktrTop dp un gd cn cs L a ccd cl outer) (PySem.call (.ref f) [.int x tx, .int lo tlo, .int hi thi]) Q E s

local macro_rules | `(tactic| walk_at "eval Name") => `(tactic| (k_here; k_dflt (refine' nameX_B ?F ?c ?v ?d ?_ ?k ?x; (case F => k_asm); (case c => assumption); (case v => assumption); (case d => assumption); (case k => rfl); (case x => rfl); k_whole)))
local macro_rules | `(tactic| walk_at "callWith ref") => `(tactic| (k_here; k_dflt (refine' callWith_F ?k1 ?_; (case k1 => exact fnAt_base (by k_asm) (by assumption)); k_whole)))
local macro_rules | `(tactic| walk_at "FnAt") => `(tactic| (k_dflt (exact fnAt_base (by k_asm) (by assumption))))

theorem inner_ok {w : World} {p : Program} {loose : List Str} {mean : ExcName → Option Value} {mg mb : Str → Option Value} {f D ca ci cn c' : Addr} {qual : Str} {cl : List (Str × Addr)} {doc pm ctv : Value} {n : Nat} {tn : Tok}
    (hn : 1 ≤ n) (hn60 : n ≤ 60) (l1 : cl.lookup (Str.ofString "a_digits") = some ca) (l2 : cl.lookup (Str.ofString "inner") = some ci) (l3 : cl.lookup (Str.ofString "n") = some cn) :
    ∀ k, 1 ≤ k → k ≤ 60 → InnerSpec PySem.Challenge.rw_rs0157_01.prog w (hd1.heap_1 w.params) p loose mean mg mb f D (InSt f D ca ci cn c' (Str.ofString "inner") qual (defPar (fnAt w.params 49)) (defBody (fnAt w.params 49)) (defScope (fnAt w.params 49)) cl doc pm ctv n tn) n k := by
  k_fill
  k_with_none
  w_top off
  generalize hbody : defBody (fnAt w.params 49) = body
  generalize hpar : defPar (fnAt w.params 49) = par
  generalize hscope : defScope (fnAt w.params 49) = sc
  conv at hbody => lhs; whnf
  conv at hpar => lhs; whnf
  conv at hscope => lhs; whnf
  subst hbody hpar hscope
  intro k
  induction k using Nat.strongRecOn with
  | _ k ih =>
  intro hk1 hk60 lo hi x tx tlo thi us ds c dp un gd cnm cs a ccd cl' outer A₀ base h₀ L m s Q E hkk hlo hhi hds hx0 hx60 hx1 hB hF hX hT hcs hdp hun hSt hD hD0 hDL hI hret
  refine wpAny_call ?_
  refine code_mut hB hF hX hT rfl rfl hcs hSt.fn rfl hSt.code (by show _ < _; dsimp only; omega) hD hD0 hDL (BindsTo.of_eq rfl) (locs rfl) ?_ (by decide) rfl rfl rfl
  intro g L' h₁ hg F' N' B' X' T'
  (try dsimp only); (try k_fold)
  obtain ⟨oa, ha1, ha2⟩ := hSt.na
  obtain ⟨oi, hi1, hi2⟩ := hSt.ni
  obtain ⟨on, hn1, hn2⟩ := hSt.nn
  have hfn := hide_keep hg hD hSt.fn (by intro e; have e' : Value.type "function" = Value.type "list" := congrArg Obj.cls e; revert e'; decide)
  have hga := hide_keep hg hD ha1 (by intro e; rw [e] at ha2; cases ha2)
  have hgi := hide_keep hg hD hi1 (by intro e; rw [e] at hi2; cases hi2)
  have hgn := hide_keep hg hD hn1 (by intro e; rw [e] at hn2; cases hn2)
  have hgc := code_keep hg hD hSt.code
  have hgD : g.get? D = none := by rw [hg]; exact Heap.hide_self _ _
  have hDL' : D ≠ L' := (N' _ (List.Mem.head _)).2.1
  have hmid := mid_eq hkk
  obtain ⟨i, hik⟩ : ∃ i, i = k / 2 := ⟨_, rfl⟩
  rw [← hik] at hmid
  have hni : n * i ≤ 3600 := Nat.mul_le_mul hn60 (show i ≤ 60 by omega)
  have hsh : ((lo + hi).fdiv (2 ^ Int.toNat 1) - lo) * (n : Int) = ((n * i : Nat) : Int) := by rw [hmid, Int.natCast_mul, Int.mul_comm]; congr 1; omega
  have hsh0 : 0 ≤ ((lo + hi).fdiv (2 ^ Int.toNat 1) - lo) * (n : Int) := by omega
  have hsh1 : ((lo + hi).fdiv (2 ^ Int.toNat 1) - lo) * (n : Int) ≤ 3600 := by omega
  have hup := up_lt (s := (((lo + hi).fdiv (2 ^ Int.toNat 1) - lo) * (n : Int)).toNat) hx0 hx60
  have hStB : ∀ {h : Heap} {mm : Str → Option Value} {us : Array Value} {c : Nat}, Fr g L' h mm → News g L' h [(D, listOf us c)] → InSt f D ca ci cn c' (Str.ofString "inner") qual _ _ _ cl doc pm ctv n tn h := fun FF NN =>
    ⟨FF.keep _ _ hfn, code_stays FF.keep hgc, ⟨_, FF.keep _ _ hga, ha2⟩, ⟨_, FF.keep _ _ hgi, hi2⟩, ⟨_, FF.keep _ _ hgn, hn2⟩, ⟨_, _, (NN _ (List.Mem.head _)).1⟩⟩
  (repeat' ((fail_if_success (with_reducible show wpAny _ _ (PySem.call (Value.ref _) [_, _, _]) _ _ _)); first | (k_unfold; (try dsimp only)) | walk1 | (dsimp only; walk1) | (leave1; try dsimp only)))
  · refine hret _ _ _ (stays_but hg (by assumption)) ((‹News g L' _ _›) _ (List.Mem.head _)).1 ?_
    have hk : k = 1 := by omega
    subst hk
    rw [dg_one (by simp only [Nat.mul_one] at hx1; have : ((x.toNat : Nat) : Int) < ((2 ^ n : Nat) : Int) := by (rw [Int.toNat_of_nonneg hx0]; exact_mod_cast hx1)
                   exact_mod_cast this), ← put_one (by omega), Int.toNat_of_nonneg hx0]
    assumption
  · rw [hsh, Int.toNat_natCast, xor_low hx0, hmid]
    refine ih i (by omega) (by omega) (by omega) _ _ _ _ _ _ us ds c _ _ _ _ _ _ _ _ _ _ _ g L' _ _ _ _ (by omega) hlo (by omega) hds (by omega) (mod_lt60 hx0 hx60) (low_lt _) B' (by assumption) X' T' rfl (by show _ < _; dsimp only; omega) (by show _ < _; dsimp only; omega) (hStB (by assumption) (by assumption)) ((‹News g L' _ _›) _ (List.Mem.head _)).1 hgD hDL' hI ?_
    intro us1 h1 tk1 st1 hD1 hI1
    have F1 := Fr.staysBut (by assumption : Fr g L' _ _) st1 hgD hDL'
    have N1 : News g L' h1 [(D, listOf us1.toArray c)] := fun q hq => by
      obtain rfl := List.mem_singleton.mp hq
      exact ⟨hD1, hDL', hgD⟩
    clear st1
    (repeat' ((fail_if_success (with_reducible show wpAny _ _ (PySem.call (Value.ref _) [_, _, _]) _ _ _)); first | (k_unfold; (try dsimp only)) | walk1 | (dsimp only; walk1) | (leave1; try dsimp only)))
    rw [hsh, Int.toNat_natCast, shr_nat hx0, hmid]
    refine ih (k - i) (by omega) (by omega) (by omega) _ _ _ _ _ _ us1 _ c _ _ _ _ _ _ _ _ _ _ _ g L' _ _ _ _ (by omega) (by omega) (by rw [put_len (by rw [dg_len]; omega)]; omega) (by rw [put_len (by rw [dg_len]; omega)]; omega) (Int.natCast_nonneg _) (by have := up_lt (s := n * i) hx0 hx60; rw [shr_nat hx0] at this; omega) (high_lt hx0 hx1 (by omega)) B' (by assumption) X' T' rfl (by show _ < _; dsimp only; omega) (by show _ < _; dsimp only; omega) (hStB (by assumption) (by assumption)) ((‹News g L' _ _›) _ (List.Mem.head _)).1 hgD hDL' hI1 ?_
    intro us2 h2 tk2 st2 hD2 hI2
    have F2 := Fr.staysBut (by assumption : Fr g L' _ _) st2 hgD hDL'
    have N2 : News g L' h2 [(D, listOf us2.toArray c)] := fun q hq => by
      obtain rfl := List.mem_singleton.mp hq
      exact ⟨hD2, hDL', hgD⟩
    clear st2
    (repeat' ((fail_if_success (with_reducible show wpAny _ _ (PySem.call (Value.ref _) [_, _, _]) _ _ _)); first | (k_unfold; (try dsimp only)) | walk1 | (dsimp only; walk1) | (leave1; try dsimp only)))
    refine hret _ _ _ (stays_but hg (by assumption)) hD2 ?_
    have e := put_all (ds := ds) (lo := lo) (n := n) (i := i) (j := k - i) (k := k) (x := x.toNat) hlo (by omega) (by omega)
    rw [Int.toNat_natCast] at hI1 hI2
    rw [Int.toNat_natCast] at hI2
    rw [e] at hI2
    exact hI2

-- FDJ
open PySem PySem.W PyProof.Rows PyProof
set_option Elab.async false
set_option maxRecDepth 100000
set_option maxHeartbeats 8000000
set_option pp.deepTerms false
set_option pp.deepTerms.threshold 6
set_option rowWalk.seconds 0


structure InSt2 (f D cd ci cn c' : Addr) (nm qual : Str) (par : Arguments) (body : List Stmt) (sc : Scope) (cl : List (Str × Addr)) (doc pm ctv : Value) (n : Nat) (tn : Tok) (us : List Value) (h : Heap) : Prop where
  fn : h.get? f = some (fnMade nm qual par body sc cl doc pm c' ctv)
  code : h.CodeRec (.ref c') qual
  na : ∃ o, h.get? cd = some o ∧ o.data = .cell (some (.ref D))
  ni : ∃ o, h.get? ci = some o ∧ o.data = .cell (some (.ref f))
  nn : ∃ o, h.get? cn = some o ∧ o.data = .cell (some (.int n tn))
  lst : h.IsList D us.toArray

noncomputable def InnerSpec2 (prog : Program) (w : World) (K : Frag) (p : Program) (loose : List Str) (mean : ExcName → Option Value) (mg mb : Str → Option Value) (f : Addr) (St : Heap → Prop) (n : Nat) (ds : List Int) (k : Nat) : Prop :=
  ∀ (lo hi : Int) (tlo thi : Tok) (dp un : Nat) (gd : Option (List Code)) (cn : Str) (cs : Scope) (a : Addr) (ccd : Value) (cl : List (Str × Addr)) (outer : List Env) (A₀ : Around) (base h₀ : Heap) (L : Addr) (m : Str → Option Value) (s : Shared) (Q E : Value → Shared → Prop),
    hi - lo = k → 0 ≤ lo → hi ≤ ds.length → ud n (cutl ds lo.toNat k) < 2 ^ 60 →
    Below A₀ base outer h₀ → Fr h₀ L s.heap m → K.In h₀ → Top p loose mean mg mb h₀ → cs.kind = .function → dp + (k + 1) < recursionLimit → un + 3 * (k + 1) + 8 < cLine →
    St s.heap →
    (∀ t h' tk', s.heap.StaysIn h' → Q (.int (ud n (cutl ds lo.toNat k)) t) { s with heap := h', toks := tk' }) →
    wpAny (model prog w) (ktrTop dp un gd cn cs L a ccd cl outer) (PySem.call (.ref f) [.int lo tlo, .int hi thi]) Q E s

theorem retP_int {Q : Value → Shared → Prop} {a b : Int} {t : Tok} {s : Shared} (e : a = b) (h : Q (.int b t) s) : RetP Q (.int a t) s := by subst e; exact h
theorem inner2_ok {w : World} {p : Program} {loose : List Str} {mean : ExcName → Option Value} {mg mb : Str → Option Value} {f D cd ci cn c' : Addr} {qual : Str} {cl : List (Str × Addr)} {doc pm ctv : Value} {n : Nat} {tn : Tok} {us : List Value} {ds : List Int}
    (hn60 : n ≤ 60) (hI : IntsAre us ds) (hds : ds.length ≤ 60) (hp : ∀ d ∈ ds, 0 ≤ d) (l1 : cl.lookup (Str.ofString "digits") = some cd) (l2 : cl.lookup (Str.ofString "inner") = some ci) (l3 : cl.lookup (Str.ofString "n") = some cn) :
    ∀ k, 1 ≤ k → k ≤ 60 → InnerSpec2 PySem.Challenge.rw_rs0157_01.prog w (hd1.heap_1 w.params) p loose mean mg mb f (InSt2 f D cd ci cn c' (Str.ofString "inner") qual (defPar (fnAt w.params 56)) (defBody (fnAt w.params 56)) (defScope (fnAt w.params 56)) cl doc pm ctv n tn us) n ds k := by
  k_fill
  k_with_none
  w_top off
  generalize hbody : defBody (fnAt w.params 56) = body
  generalize hpar : defPar (fnAt w.params 56) = par
  generalize hscope : defScope (fnAt w.params 56) = sc
  conv at hbody => lhs; whnf
  conv at hpar => lhs; whnf
  conv at hscope => lhs; whnf
  subst hbody hpar hscope
  intro k
  induction k using Nat.strongRecOn with
  | _ k ih =>
  intro hk1 hk60 lo hi tlo thi dp un gd cnm cs a ccd cl' outer A₀ base h₀ L m s Q E hkk hlo hhi hud hB hF hX hT hcs hdp hun hSt hret
  refine wpAny_call ?_
  refine code_pureX hB hF hX hT rfl rfl hcs hSt.fn rfl hSt.code (by show _ < _; dsimp only; omega) (BindsTo.of_eq rfl) (locs rfl) ?_ (by decide) rfl rfl rfl
  intro g L' h₁ hg F' N' B' X' T'
  rw [← hg] at hSt
  (try dsimp only); (try k_fold)
  obtain ⟨oa, ha1, ha2⟩ := hSt.na
  obtain ⟨oi, hi1, hi2⟩ := hSt.ni
  obtain ⟨on, hn1, hn2⟩ := hSt.nn
  have hfn := hSt.fn
  have hlst := hSt.lst
  have hgc := hSt.code
  have hmid := mid_eq hkk
  obtain ⟨i, hik⟩ : ∃ i, i = k / 2 := ⟨_, rfl⟩
  rw [← hik] at hmid
  have hni : n * i ≤ 3600 := Nat.mul_le_mul hn60 (show i ≤ 60 by omega)
  have hsh : ((lo + hi).fdiv (2 ^ Int.toNat 1) - lo) * (n : Int) = ((n * i : Nat) : Int) := by rw [hmid, Int.natCast_mul, Int.mul_comm]; congr 1; omega
  have hsh0 : 0 ≤ ((lo + hi).fdiv (2 ^ Int.toNat 1) - lo) * (n : Int) := by omega
  have hsh1 : ((lo + hi).fdiv (2 ^ Int.toNat 1) - lo) * (n : Int) ≤ 3600 := by omega
  obtain ⟨hu1, hu2, hu3, hu4⟩ := ud_split (n := n) (lo := lo.toNat) (i := i) (j := k - i) (k := k) hp (by omega) (by omega)
  have hStB : ∀ {h : Heap} {mm : Str → Option Value}, Fr g L' h mm → InSt2 f D cd ci cn c' (Str.ofString "inner") qual _ _ _ cl doc pm ctv n tn us h := fun FF =>
    ⟨FF.keep _ _ hfn, code_stays FF.keep hgc, ⟨_, FF.keep _ _ ha1, ha2⟩, ⟨_, FF.keep _ _ hi1, hi2⟩, ⟨_, FF.keep _ _ hn1, hn2⟩, stays_list FF.keep hlst⟩
  have hlo2 : (lo + (i : Int)).toNat = lo.toNat + i := by omega
  have hH : 0 ≤ ud n (cutl ds (lo.toNat + i) (k - i)) ∧ ud n (cutl ds (lo.toNat + i) (k - i)) < 2 ^ 60 := by
    generalize (2 : Int) ^ (n * i) * ud n (cutl ds (lo.toNat + i) (k - i)) = z at *
    omega
  have hL : ud n (cutl ds lo.toNat i) < 2 ^ 60 := by
    generalize (2 : Int) ^ (n * i) * ud n (cutl ds (lo.toNat + i) (k - i)) = z at *
    omega
  (repeat' ((fail_if_success (with_reducible show wpAny _ _ (PySem.call (Value.ref _) [_, _]) _ _ _)); first | (k_unfold; (try dsimp only)) | walk1 | (dsimp only; walk1) | (leave1; try dsimp only)))
  · have hk : k = 1 := by omega
    subst hk
    have e : ud n (cutl ds lo.toNat 1) = ds.getD lo.toNat 0 := by rw [cutl_one (by omega)]; simp [ud]
    rw [e] at hret
    exact hret _ _ _ (stays_of hg (by assumption))
  · rw [hmid]
    refine ih (k - i) (by omega) (by omega) (by omega) _ _ _ _ _ _ _ _ _ _ _ _ _ _ _ g L' _ _ _ _ (by omega) (by omega) (by omega) (by rw [hlo2]; exact hH.2) B' (by assumption) X' T' rfl (by show _ < _; dsimp only; omega) (by show _ < _; dsimp only; omega) (hStB (by assumption)) ?_
    intro t1 h1 tk1 st1
    have F1 := Fr.stays (by assumption : Fr g L' _ _) st1
    have N1 : News g L' h1 [] := News.nil
    clear st1
    rw [hlo2]
    (repeat' ((fail_if_success (with_reducible show wpAny _ _ (PySem.call (Value.ref _) [_, _]) _ _ _)); first | (k_unfold; (try dsimp only)) | walk1 | (dsimp only; walk1) | (leave1; try dsimp only)))
    rw [hmid]
    refine ih i (by omega) (by omega) (by omega) _ _ _ _ _ _ _ _ _ _ _ _ _ _ _ g L' _ _ _ _ (by omega) (by omega) (by omega) hL B' (by assumption) X' T' rfl (by show _ < _; dsimp only; omega) (by show _ < _; dsimp only; omega) (hStB (by assumption)) ?_
    intro t2 h2 tk2 st2
    have F2 := Fr.stays (by assumption : Fr g L' _ _) st2
    have N2 : News g L' h2 [] := News.nil
    clear st2
    (repeat' ((fail_if_success (with_reducible show wpAny _ _ (PySem.call (Value.ref _) [_, _]) _ _ _)); first | (k_unfold; (try dsimp only)) | walk1 | (dsimp only; walk1) | (leave1; try dsimp only)))
    refine retP_int (b := ud n (cutl ds lo.toNat k)) ?_ (hret _ _ _ (stays_of hg (by assumption)))
    have hs2 : ((lo + (i : Int) - lo) * (n : Int)).toNat = n * i := by rw [show lo + (i : Int) - lo = i by omega, ← Int.natCast_mul, Int.toNat_natCast, Nat.mul_comm]
    (try simp only [hmid])
    rw [hs2, hu1, Int.mul_comm, Int.add_comm]
end Mine

-- FDK
open PySem PySem.W PyProof.Rows PyProof
set_option Elab.async false
set_option maxRecDepth 100000
set_option maxHeartbeats 8000000
set_option pp.deepTerms false
set_option pp.deepTerms.threshold 6
set_option rowWalk.seconds 0
namespace Mine

noncomputable def defPos : List Stmt → Pos
  | .FunctionDef _ _ _ _ _ _ _ _ _ ps :: _ => ps
  | _ :: r => defPos r
  | [] => ⟨0, 0, 0, 0⟩
/-- the table of a def's inner codes is filled -/
noncomputable def Filled (P : Addr) (pos : Pos) (qual : Str) (h : Heap) : Prop := ∃ ps c', h.get? P = some (tabObj ps) ∧ TriplesOk ps.toList ∧ codeAmong pos ps.toList = some (.ref c') ∧ h.CodeRec (.ref c') qual
theorem Filled.stays {P : Addr} {pos : Pos} {qual : Str} {h h' : Heap} (x : Filled P pos qual h) (k : h.StaysIn h') : Filled P pos qual h' := by
  obtain ⟨ps, c', e1, e2, e3, e4⟩ := x
  exact ⟨ps, c', k _ _ e1, e2, e3, code_stays k e4⟩

theorem nestHitB {M : Model} {A : Around} {E : Value → Shared → Prop} {s : Shared} {h₀ : Heap} {L a c P : Addr} {m mg mb : Str → Option Value} {cn : Str} {cs : Scope} {ccd : Value} {cl : List (Str × Addr)} {news : List (Addr × Obj)}
    {p : Program} {loose : List Str} {mean : ExcName → Option Value} {name qual : Str} {params : Arguments} {body : List Stmt} {scope : Scope} {ps : Array Value} {pos : Pos} {firstLine : Nat} {clos : List (Str × Addr)} {Q : Value → Shared → Prop} {c' : Addr}
    (F : Fr h₀ L s.heap m) (N : News h₀ L s.heap news) (T : Top p loose mean mg mb h₀) (C : CodeHd h₀ c P) (hcd : ccd = .ref c) (hP : h₀.get? P = some (tabObj ps)) (ht : TriplesOk ps.toList) (hf : codeAmong pos ps.toList = some (.ref c'))
    (hcl : closureFor scope (envX cn cs L a ccd cl) = pure clos)
    (h : ∀ f ctv doc pm h' tk, Fr h₀ L h' m → News h₀ L h' ((f, fnMade name qual params body scope clos doc pm c' ctv) :: news) → (∀ q ∈ news, q.1 < f) → Q (.ref f) { s with heap := h', toks := tk }) :
    wpAny M A (makeFunction name qual params (.stmts body) scope (envX cn cs L a ccd cl) [] [] [] pos firstLine) Q E s := by
  have hm := F.keep _ _ hP
  obtain ⟨bm, ob, b1, b2, b3, b4, b5, b6⟩ := T.bmain
  have hbP : bm ≠ P := fun q => by
    have e := F.keep _ _ b3
    rw [q, hm] at e; cases e; cases b4
  have hbG : bm ≠ mainGlobals := fun q => by
    obtain ⟨o, es, ep, e, hd, _⟩ := T.g
    rw [q, e] at b3; cases b3; rw [hd] at b6; cases b6
  refine makeFunction_hit (mg := mg) hcl rfl (T.g.keeps F.keep) hcd (C.keeps F.keep) hm ht hf ⟨bm, ob, b1, b2, hbG, hbP, F.keep _ _ b3, b4, b5, b6⟩ fun ctv doc h' tk hk hsz => ?_
  have hLs : L < h'.objs.size := Nat.lt_of_lt_of_le F.ns.lt hsz
  refine h h'.objs.size ctv doc ((mg "__name__").getD .none) _ tk (Fr.push (Fr.stays F hk) _) (fun q hq => ?_) (fun q hq => Nat.lt_of_lt_of_le (Heap.lt_size (N q hq).1) hsz)
  rcases List.mem_cons.mp hq with rfl | hq
  · exact ⟨Heap.get?_push_size _ rfl, Nat.ne_of_gt hLs, Heap.get?_none_of_le (Nat.le_trans F.above (Nat.le_of_lt hLs))⟩
  · exact ⟨Heap.get?_push_of_some _ (hk _ _ (N q hq).1), (N q hq).2⟩
end Mine

-- FE1
open PySem PySem.W PyProof.Rows PyProof
set_option Elab.async false
set_option maxRecDepth 100000
set_option maxHeartbeats 8000000
set_option pp.deepTerms false
set_option pp.deepTerms.threshold 6
set_option rowWalk.seconds 0
namespace Mine

noncomputable def ndig (n : Nat) (x : Int) : Nat := (((Builtin.Int.intBits x : Int) + n - 1).fdiv n).toNat
theorem ndig_eq {n : Nat} {x : Int} (hn : 1 ≤ n) (h0 : 0 ≤ x) (h : x < 2 ^ 60) : ((Builtin.Int.intBits x : Int) + n - 1).fdiv n = (ndig n x : Int) ∧ ndig n x ≤ 60 ∧ x < 2 ^ (n * ndig n x) := by
  have hb := bits60 h0 h
  have e : ((Builtin.Int.intBits x : Int) + n - 1).fdiv n = (((Builtin.Int.intBits x + n - 1) / n : Nat) : Int) := by
    rw [Int.fdiv_eq_ediv_of_nonneg _ (by omega)]
    rw [Int.natCast_ediv]
    congr 1; omega
  have e2 : ndig n x = (Builtin.Int.intBits x + n - 1) / n := by unfold ndig; rw [e, Int.toNat_natCast]
  have h1 : n * ((Builtin.Int.intBits x + n - 1) / n) ≥ Builtin.Int.intBits x := by
    have h3 := Nat.div_add_mod (Builtin.Int.intBits x + n - 1) n
    have h4 := Nat.mod_lt (Builtin.Int.intBits x + n - 1) (show 0 < n by omega)
    omega
  refine ⟨by rw [e, e2], ?_, ?_⟩
  · rw [e2]
    have : (Builtin.Int.intBits x + n - 1) / n ≤ Builtin.Int.intBits x := by
      by_cases hz : Builtin.Int.intBits x = 0
      · rw [hz, Nat.zero_add, Nat.div_eq_of_lt (by omega)]; exact Nat.le_refl _
      · rw [Nat.div_le_iff_le_mul_add_pred (by omega)]
        have : Builtin.Int.intBits x ≤ n * Builtin.Int.intBits x := Nat.le_mul_of_pos_left _ (by omega)
        omega
    omega
  · have h5 : x.natAbs < 2 ^ (n * ndig n x) := intBits_le_iff.mp (by rw [e2]; exact h1)
    have h6 : ((x.natAbs : Nat) : Int) < ((2 ^ (n * ndig n x) : Nat) : Int) := by exact_mod_cast h5
    have h7 : ((x.natAbs : Nat) : Int) = x := by omega
    rw [h7] at h6
    exact_mod_cast h6
theorem put_full {ds l : List Int} (h : l.length = ds.length) : put ds 0 l = l := by
  unfold put
  rw [List.take_zero, List.nil_append, Nat.zero_add, h, List.drop_length, List.append_nil]
theorem ints_rep (k : Nat) (t : Tok) : IntsAre (List.replicate k (.int 0 t)) (List.replicate k 0) := by
  induction k with
  | zero => exact IntsAre.nil
  | succ k ih => exact IntsAre.cons _ _ ih
theorem News.but1 {h₀ h h' : Heap} {L D x : Addr} {oD oD' ox : Obj} {news : List (Addr × Obj)} (N : News h₀ L h news) (st : StaysBut D h h') (hD : h'.get? D = some oD') (hm : (D, oD) ∈ news) (hx : (x, ox) ∈ news) (hne : x ≠ D) : News h₀ L h' [(D, oD'), (x, ox)] := fun q hq => by
  rcases List.mem_cons.mp hq with rfl | hq
  · exact ⟨hD, (N _ hm).2⟩
  · obtain rfl := List.mem_singleton.mp hq
    exact ⟨st _ _ hne (N _ hx).1, (N _ hx).2⟩
/-- a list of ints -/
noncomputable def ListI (ds : List Int) (o : Obj) : Prop := ∃ us c, o = listOf (List.toArray us) c ∧ IntsAre us ds
theorem mul_zero0 {prog : Program} {w : World} {A : Around} {E : Value → Shared → Prop} {s : Shared} {h₀ : Heap} {L l : Addr} {m : Str → Option Value} {news : List (Addr × Obj)} {t : Tok} {k : Nat} {u : Tok} {Q : Value → Shared → Prop}
    (F : Fr h₀ L s.heap m) (N : News h₀ L s.heap news) (hl : s.heap.IsList l #[.int 0 t]) (hk : k ≤ 256)
    (h : ∀ D us h', IntsAre us (List.replicate k 0) → Fr h₀ L h' m → News h₀ L h' ((D, listOf (List.toArray us) 0) :: news) → (∀ p ∈ news, p.1 < D) → Q (.ref D) { s with heap := h' }) :
    wpAny (model prog w) A (binaryOp .Mult (.ref l) (.int (k : Int) u)) Q E s :=
  mul_one1 F N hl hk fun D h' F' N' hlt => h D _ h' (ints_rep k t) F' N' hlt
theorem ndig_zero {n : Nat} (hn : 1 ≤ n) : ndig n 0 = 0 := by
  unfold ndig
  have : Builtin.Int.intBits 0 = 0 := by decide +kernel
  rw [this, Int.fdiv_eq_ediv_of_nonneg _ (by omega), Int.ediv_eq_zero_of_lt (by omega) (by omega)]
  rfl

theorem i2dF_ok {w : World} {p : Program} {loose : List Str} {mean : ExcName → Option Value} {mg mb : Str → Option Value} (x : Int) (n : Nat) (tx tn : Tok) :
  Pure PySem.Challenge.rw_rs0157_01.prog w (hd1.heap_1 w.params) p loose mean mg mb 49 64 210 [.int x tx, .int n tn] (fun h => 0 ≤ x ∧ x < 2 ^ 60 ∧ 1 ≤ n ∧ n ≤ 60 ∧ Filled 44 (defPos (fnAt w.params 49)) (Str.ofString "_int2digits.<locals>.inner") h) (NewObj (ListI (dg n x.toNat (ndig n x)))) := by
  k_fill
  k_with_none
  w_top off
  intro dp un gd cn cs a ccd cl outer A₀ base h₀ L m s Q E hB hF hX hT hcs hdp hun hpre hret
  refine wpAny_call ?_
  ((k_dflt (refine' code_pureC ?k1 ?k2 ?k3 ?k5 ?kA ?kF ?kK ?k6 ?k7 ?k8 ?k9 ?kB ?kD ?_ ?c2 ?c3 ?c4; (case kA => exact rfl); (case kF => exact rfl); (case kK => assumption); (case k1 => k_asm); (case k2 => k_asm); (case k3 => k_asm); (case k5 => k_asm); (case k6 => k_is); (case k7 => k_is); (case k8 => (show _ < _; dsimp only; omega)); (case k9 => exact BindsTo.of_eq rfl); (case kB => exact rfl); (case kD => decide +kernel); (case c2 => exact rfl); (case c3 => exact rfl); (case c4 => exact rfl); k_whole)))
  intro g L' h₁ tk' cells' hg F' N' Y' B' X' T' hsz
  k_cells Y'
  (try simp only [List.cons_append, List.nil_append] at N')
  (try dsimp only); (try k_fold)
  obtain ⟨h0, h1, h2, h3, hfill⟩ := hpre
  rw [← hg] at hfill
  obtain ⟨ps, c1, hps1, hps2, hps3, hps4⟩ := hfill
  obtain ⟨hk1, hk60, hkx⟩ := ndig_eq h2 h0 h1
  have hC : CodeHd g 48 44 := codeHd_of_K X' (by kernel_rfl)
  (repeat' ((fail_if_success (with_reducible show wpAny _ _ (binaryOp Operator.Mult (Value.ref _) _) _ _ _)); (fail_if_success (with_reducible show wpAny _ _ (exec (Stmt.FunctionDef _ _ _ _ _ _ _ _ _ _) _) _ _ _)); (fail_if_success (with_reducible show wpAny _ _ (PySem.call (Value.ref _) [_, _, _]) _ _ _)); first | (k_unfold; (try dsimp only)) | walk1 | (dsimp only; walk1) | (leave1; try dsimp only)))
  rw [hk1]
  refine mul_zero0 (by assumption) (by assumption) (by is_list) (by omega) ?_
  intro D us h' hI F' N' hlt
  k_lt hlt
  (repeat' ((fail_if_success (with_reducible show wpAny _ _ (binaryOp Operator.Mult (Value.ref _) _) _ _ _)); (fail_if_success (with_reducible show wpAny _ _ (exec (Stmt.FunctionDef _ _ _ _ _ _ _ _ _ _) _) _ _ _)); (fail_if_success (with_reducible show wpAny _ _ (PySem.call (Value.ref _) [_, _, _]) _ _ _)); first | (k_unfold; (try dsimp only)) | walk1 | (dsimp only; walk1) | (leave1; try dsimp only)))
  refine nestDef_K rfl rfl rfl ?_
  refine nestHitB (by assumption) (by assumption) T' hC rfl hps1 hps2 hps3 rfl ?_
  intro f ctv doc pm h' tk F' N' hlt2
  k_lt hlt2
  have hIl := hI.length
  rw [List.length_replicate] at hIl
  (repeat' ((fail_if_success (with_reducible show wpAny _ _ (binaryOp Operator.Mult (Value.ref _) _) _ _ _)); (fail_if_success (with_reducible show wpAny _ _ (exec (Stmt.FunctionDef _ _ _ _ _ _ _ _ _ _) _) _ _ _)); (fail_if_success (with_reducible show wpAny _ _ (PySem.call (Value.ref _) [_, _, _]) _ _ _)); first | (k_unfold; (try dsimp only)) | walk1 | (dsimp only; walk1) | (leave1; try dsimp only)))
  · refine kst_len (by assumption) (by k_mem) hIl (by omega) ?_
    (repeat' ((fail_if_success (with_reducible show wpAny _ _ (binaryOp Operator.Mult (Value.ref _) _) _ _ _)); (fail_if_success (with_reducible show wpAny _ _ (exec (Stmt.FunctionDef _ _ _ _ _ _ _ _ _ _) _) _ _ _)); (fail_if_success (with_reducible show wpAny _ _ (PySem.call (Value.ref _) [_, _, _]) _ _ _)); first | (k_unfold; (try dsimp only)) | walk1 | (dsimp only; walk1) | (leave1; try dsimp only)))
    have hk0 : 1 ≤ ndig n x := by
      rcases Nat.eq_zero_or_pos (ndig n x) with hz | hz
      · rw [hz, Nat.mul_zero] at hkx; omega
      · exact hz
    rename News g L' _ _ => NN
    refine inner_ok (ca := L' + 1 + 1) (ci := L' + 1 + 1 + 1) (cn := L' + 1) (doc := doc) (pm := pm) (ctv := ctv) (c' := c1) (tn := tn) (qual := Str.ofString "_int2digits.<locals>.inner") h2 h3 rfl rfl rfl (ndig n x) hk0 hk60 _ _ _ _ _ _ us _ 0 _ _ _ _ _ _ _ _ _ _ _ g L' _ _ _ _ (by omega) (by omega) (by rw [List.length_replicate]; omega) (by rw [List.length_replicate]; omega) h0 h1 hkx B' (by assumption) X' T' rfl (by show _ < _; dsimp only; omega) (by show _ < _; dsimp only; omega) ⟨(NN _ (by k_mem)).1, code_stays (Fr.keep (by assumption)) hps4, ⟨_, (NN (L' + 1 + 1, _) (by k_mem)).1, by assumption⟩, ⟨_, (NN (L' + 1 + 1 + 1, _) (by k_mem)).1, by assumption⟩, ⟨_, (NN (L' + 1, _) (by k_mem)).1, by assumption⟩, ⟨_, _, (NN (D, _) (by k_mem)).1⟩⟩ (NN (D, _) (by k_mem)).1 (NN (D, _) (by k_mem)).2.2 (NN (D, _) (by k_mem)).2.1 hI ?_
    intro us2 h2 tk2 st2 hD2 hI2
    rw [show (0 : Int).toNat = 0 from rfl, put_full (by rw [dg_len, List.length_replicate])] at hI2
    have F2 := Fr.staysBut (by assumption : Fr g L' _ _) st2 (NN (D, _) (by k_mem)).2.2 (NN (D, _) (by k_mem)).2.1
    have N2 := News.but1 (D := D) (x := L' + 1 + 1) NN st2 hD2 (by k_mem) (by k_mem) (by (refine neN ?_); omega)
    clear st2 NN
    (repeat' ((fail_if_success (with_reducible show wpAny _ _ (binaryOp Operator.Mult (Value.ref _) _) _ _ _)); (fail_if_success (with_reducible show wpAny _ _ (exec (Stmt.FunctionDef _ _ _ _ _ _ _ _ _ _) _) _ _ _)); (fail_if_success (with_reducible show wpAny _ _ (PySem.call (Value.ref _) [_, _, _]) _ _ _)); first | (k_unfold; (try dsimp only)) | walk1 | (dsimp only; walk1) | (leave1; try dsimp only)))
    exact hret _ _ _ (stays_of hg (by assumption)) (NewObj.of hg (by assumption) (List.Mem.head _) ⟨_, _, rfl, hI2⟩)
  · rename x = 0 => hx
    subst hx
    refine hret _ _ _ (stays_of hg (by assumption)) (NewObj.of hg (by assumption) (by k_mem) ⟨us, 0, rfl, ?_⟩)
    rw [ndig_zero h2] at hI ⊢
    exact hI
end Mine

-- FE2
open PySem PySem.W PyProof.Rows PyProof
set_option Elab.async false
set_option maxRecDepth 100000
set_option maxHeartbeats 8000000
set_option pp.deepTerms false
set_option pp.deepTerms.threshold 6
set_option rowWalk.seconds 0
namespace Mine

theorem d2iF_ok {w : World} {p : Program} {loose : List Str} {mean : ExcName → Option Value} {mg mb : Str → Option Value} (D : Addr) (us : List Value) (ds : List Int) (n : Nat) (tn : Tok) :
  Pure PySem.Challenge.rw_rs0157_01.prog w (hd1.heap_1 w.params) p loose mean mg mb 56 64 210 [.ref D, .int n tn] (fun h => h.IsList D us.toArray ∧ IntsAre us ds ∧ ds.length ≤ 60 ∧ (∀ d ∈ ds, 0 ≤ d) ∧ ud n ds < 2 ^ 60 ∧ n ≤ 60 ∧ Filled 51 (defPos (fnAt w.params 56)) (Str.ofString "_digits2int.<locals>.inner") h) (IsV fun t => .int (ud n ds) t) := by
  k_fill
  k_with_none
  w_top off
  intro dp un gd cn cs a ccd cl outer A₀ base h₀ L m s Q E hB hF hX hT hcs hdp hun hpre hret
  refine wpAny_call ?_
  ((k_dflt (refine' code_pureC ?k1 ?k2 ?k3 ?k5 ?kA ?kF ?kK ?k6 ?k7 ?k8 ?k9 ?kB ?kD ?_ ?c2 ?c3 ?c4; (case kA => exact rfl); (case kF => exact rfl); (case kK => assumption); (case k1 => k_asm); (case k2 => k_asm); (case k3 => k_asm); (case k5 => k_asm); (case k6 => k_is); (case k7 => k_is); (case k8 => (show _ < _; dsimp only; omega)); (case k9 => exact BindsTo.of_eq rfl); (case kB => exact rfl); (case kD => decide +kernel); (case c2 => exact rfl); (case c3 => exact rfl); (case c4 => exact rfl); k_whole)))
  intro g L' h₁ tk' cells' hg F' N' Y' B' X' T' hsz
  k_cells Y'
  (try simp only [List.cons_append, List.nil_append] at N')
  (try dsimp only); (try k_fold)
  obtain ⟨hl, hI, hlen, hpos, hud, h3, hfill⟩ := hpre
  rw [← hg] at hfill hl
  obtain ⟨ps, c1, hps1, hps2, hps3, hps4⟩ := hfill
  have hIl := hI.length
  have hC : CodeHd g 55 51 := codeHd_of_K X' (by kernel_rfl)
  (repeat' ((fail_if_success (with_reducible show wpAny _ _ (exec (Stmt.FunctionDef _ _ _ _ _ _ _ _ _ _) _) _ _ _)); (fail_if_success (with_reducible show wpAny _ _ (PySem.call (Value.ref _) [_, _]) _ _ _)); first | (k_unfold; (try dsimp only)) | walk1 | (dsimp only; walk1) | (leave1; try dsimp only)))
  refine nestDef_K rfl rfl rfl ?_
  refine nestHitB (by assumption) (by assumption) T' hC rfl hps1 hps2 hps3 rfl ?_
  intro f ctv doc pm h' tk F' N' hlt2
  k_lt hlt2
  (repeat' ((fail_if_success (with_reducible show wpAny _ _ (exec (Stmt.FunctionDef _ _ _ _ _ _ _ _ _ _) _) _ _ _)); (fail_if_success (with_reducible show wpAny _ _ (PySem.call (Value.ref _) [_, _]) _ _ _)); first | (k_unfold; (try dsimp only)) | walk1 | (dsimp only; walk1) | (leave1; try dsimp only)))
  · rename News g L' _ _ => NN
    have hcut : cutl ds (0 : Int).toNat ds.length = ds := by
      unfold cutl
      rw [show (0 : Int).toNat = 0 from rfl, List.drop_zero, List.take_length]
    refine inner2_ok (D := D) (cd := L' + 1) (ci := L' + 1 + 1 + 1) (cn := L' + 1 + 1) (doc := doc) (pm := pm) (ctv := ctv) (c' := c1) (tn := tn) (us := us) (qual := Str.ofString "_digits2int.<locals>.inner") h3 hI hlen hpos rfl rfl rfl ds.length (by omega) hlen _ _ _ _ _ _ _ _ _ _ _ _ _ _ _ g L' _ _ _ _ (by omega) (by omega) (by omega) (by rw [hcut]; exact hud) B' (by assumption) X' T' rfl (by show _ < _; dsimp only; omega) (by show _ < _; dsimp only; omega) ⟨(NN (f, _) (by k_mem)).1, code_stays (Fr.keep (by assumption)) hps4, ⟨_, (NN (L' + 1, _) (by k_mem)).1, by assumption⟩, ⟨_, (NN (L' + 1 + 1 + 1, _) (by k_mem)).1, by assumption⟩, ⟨_, (NN (L' + 1 + 1, _) (by k_mem)).1, by assumption⟩, stays_list (Fr.keep (by assumption)) hl⟩ ?_
    intro t2 h2 tk2 st2
    rw [hcut]
    have F2 := Fr.stays (by assumption : Fr g L' _ _) st2
    clear st2 NN
    exact hret _ _ _ (stays_of hg F2) (isV_int rfl)
  · have hz : ds = [] := List.eq_nil_of_length_eq_zero (by omega)
    refine hret _ _ _ (stays_of hg (by assumption)) (isV_int ?_)
    rw [hz]; rfl
end Mine

-- P5
open PySem PySem.W PyProof.Rows PyProof
set_option Elab.async false
set_option maxRecDepth 100000
set_option linter.unusedVariables false
namespace Mine
theorem rep_dbl (x : Str) : tl (Txt.replace x (Str.ofString "\"") (Str.ofString "\"\"")) = StrLaws.dbl 34 (tl x) := by
  have e : Str.ofString "\"\"" = ⟨#[34, 34]⟩ := by decide +kernel
  rw [q34_eq, e]
  exact StrLaws.replace_double x 34
theorem dbl_len (c : Nat) : ∀ l : List Nat, (StrLaws.dbl c l).length ≤ 2 * l.length
  | [] => Nat.le_refl _
  | a :: r => by
    have := dbl_len c r
    unfold StrLaws.dbl
    split <;> simp only [List.length_cons] <;> omega
theorem rep_len (x : Str) : (Txt.replace x (Str.ofString "\"") (Str.ofString "\"\"")).length ≤ 2 * x.length := by
  rw [← tl_len, rep_dbl, ← tl_len x]; exact dbl_len _ _
theorem scan_dbl {t : List Nat} (ht : t.head? ≠ some 34) : ∀ l : List Nat, scan (StrLaws.dbl 34 l ++ 34 :: t) = l
  | [] => by
    show scan (34 :: t) = []
    cases t with
    | nil => simp [scan]
    | cons d r => rw [scan, if_pos rfl, if_neg (fun q => ht (by rw [q]; rfl))]
  | a :: r => by
    have ih := scan_dbl ht r
    unfold StrLaws.dbl
    split
    · rename_i h
      have h' : a = 34 := by simpa using h
      subst h'
      show scan (34 :: 34 :: (StrLaws.dbl 34 r ++ 34 :: t)) = 34 :: r
      rw [scan, if_pos rfl, if_pos rfl, ih]
    · rename_i h
      have h' : a ≠ 34 := by simpa using h
      show scan (a :: (StrLaws.dbl 34 r ++ 34 :: t)) = a :: r
      rw [scan_other h', ih]
end Mine

-- P6
open PySem PySem.W PyProof.Rows PyProof
set_option Elab.async false
set_option maxRecDepth 100000
set_option linter.unusedVariables false
namespace Mine
noncomputable def pickI (bs : List Int) (lo hi st : Option Int) : List Int := (sliceRange (sliceBounds lo hi st bs.length).1 (sliceBounds lo hi st bs.length).2.1 (sliceBounds lo hi st bs.length).2.2).filterMap (bs[·]?)
theorem pick_go {us : List Value} {bs : List Int} (hI : IntsAre us bs) : ∀ l : List Nat, IntsAre (l.filterMap (us.toArray[·]?)) (l.filterMap (bs[·]?))
  | [] => IntsAre.nil
  | i :: r => by
    rw [List.filterMap_cons, List.filterMap_cons]
    have e := hI.length
    cases h : bs[i]? with
    | none =>
      have : us.toArray[i]? = none := by
        rw [List.getElem?_toArray]
        rw [List.getElem?_eq_none_iff] at h ⊢; omega
      rw [this]
      exact pick_go hI r
    | some n =>
      obtain ⟨t, hx⟩ := hI.get i n h
      have : us.toArray[i]? = some (.int n t) := by rw [List.getElem?_toArray]; exact hx
      rw [this]
      exact IntsAre.cons _ _ (pick_go hI r)
theorem pick_ints {us : List Value} {bs : List Int} (hI : IntsAre us bs) (lo hi st : Option Int) : IntsAre (slicePick us.toArray lo hi st).toList (pickI bs lo hi st) := by
  unfold slicePick pickI
  rw [List.size_toArray, hI.length, List.toList_toArray]
  exact pick_go hI _
theorem sum_pick {prog : Program} {w : World} {A : Around} {E : Value → Shared → Prop} {s : Shared} {h₀ : Heap} {L : Addr} {m : Str → Option Value} {news : List (Addr × Obj)} {l : Addr} {us : List Value} {bs : List Int} {lo hi st : Option Int} {Q : Value → Shared → Prop} (hh : A.handled = none) (F : Fr h₀ L s.heap m) (N : News h₀ L s.heap news)
    (hm : (l, ({ cls := .type "list", data := .seq (slicePick us.toArray lo hi st) } : Obj)) ∈ news) (hI : IntsAre us bs)
    (h : ∀ h' tk t', Fr h₀ L h' m → News h₀ L h' news → Q (.int (pickI bs lo hi st).sum t') { s with heap := h', toks := tk }) :
    wpAny (model prog w) A (call (.builtin "sum") [.ref l]) Q E s :=
  sumK (vs := (slicePick us.toArray lo hi st).toList) hh F N ⟨_, (N _ hm).1, rfl, _, rfl⟩ (pick_ints hI lo hi st) h
end Mine

-- PT
open PySem PySem.W PyProof.Rows PyProof
set_option Elab.async false
set_option maxRecDepth 100000
set_option linter.unusedVariables false
namespace Mine
/-- an item of a tuple -/
theorem tup_at {prog : Program} {w : World} {A : Around} {E : Value → Shared → Prop} {s : Shared} {value slice : PySem.Expr} {t : Addr} {l : List Value} {k : Int} {u : Tok} {x : Value} {Q : Value → Shared → Prop}
    (ht : IsTup s.heap t l.toArray) (h0 : 0 ≤ k) (h1 : k < 8) (hx : l[k.toNat]? = some x) (h : Q x s)
    (hs : subscripted slice false (.ref t) (.int k u) = operate [.ref t, .int k u] (getItem (.ref t) (.int k u)) := by with_unfolding_all rfl) :
    wpAny (model prog w) A (subscriptTail value slice (.ref t) (.int k u)) Q E s := by
  have hn : k.toNat < l.length := by
    rcases Nat.lt_or_ge k.toNat l.length with h | h
    · exact h
    · rw [List.getElem?_eq_none h] at hx; cases hx
  exact tail_any ht.typeIs slot_tuple_getitem.lookup (getItem_tuple ht (by omega) (by omega) (seqIndex_of h0 (by rw [List.size_toArray]; omega)) (by rw [List.getElem?_toArray]; exact hx) h) hs
end Mine

-- FH1
open PySem PySem.W PyProof.Rows PyProof
set_option Elab.async false
set_option maxRecDepth 100000
set_option maxHeartbeats 8000000
set_option pp.deepTerms false
set_option pp.deepTerms.threshold 6
set_option rowWalk.seconds 0
namespace Mine

noncomputable def replyF (x : Str) : Str := Str.ofString "257 \"" ++ Txt.replace x (Str.ofString "\"") (Str.ofString "\"\"") ++ Str.ofString "\" is in \"/\""
theorem reply_ok {w : World} {p : Program} {loose : List Str} {mean : ExcName → Option Value} {mg mb : Str → Option Value} (x : Str) (tx : Tok) :
  Pure PySem.Challenge.rw_rs0157_01.prog w (hd1.heap_1 w.params) p loose mean mg mb 142 1 8 [.str x tx] (fun _ => x.length ≤ 100) (IsV fun t => .str (replyF x) t) := by
  k_fill
  k_with_none
  w_top off
  intro dp un gd cn cs a ccd cl outer A₀ base h₀ L m s Q E hB hF hX hT hcs hdp hun hpre hret
  refine wpAny_call ?_
  ((k_dflt (refine' code_pure ?k1 ?k2 ?k3 ?k5 ?kA ?kF ?kK ?k6 ?k7 ?k8 ?k9 ?kB ?_ ?c2 ?c3 ?c4 ?c5; (case kA => exact rfl); (case kF => exact rfl); (case kK => assumption); (case k1 => k_asm); (case k2 => k_asm); (case k3 => k_asm); (case k5 => k_asm); (case k6 => k_is); (case k7 => k_is); (case k8 => (show _ < _; dsimp only; omega)); (case k9 => exact BindsTo.of_eq rfl); (case c5 => decide); (case kB => exact locs rfl); (case c2 => exact rfl); (case c3 => exact rfl); (case c4 => exact rfl); k_whole)))
  intro g L' h₁ hg F' N' B' X' T'
  (try dsimp only); (try k_fold)
  have hrl := rep_len x
  (repeat' (first | (k_unfold; (try dsimp only)) | walk1 | (dsimp only; walk1) | (leave1; try dsimp only)))
  all_goals (try exact hret _ _ _ (stays_of hg (by assumption)) (isV_str rfl))
noncomputable def portF (a l q : Int) : Str := Str.ofString "229 (" ++ Txt.mul (Txt.item (Str.ofString "|\"") q) 3 ++ Str.ofString (toString (10 * a + l)) ++ Txt.item (Str.ofString "|\"") q ++ Str.ofString ")"
theorem port_ok {w : World} {p : Program} {loose : List Str} {mean : ExcName → Option Value} {mg mb : Str → Option Value} (T : Addr) (a l q : Int) (ta tl tq : Tok) :
  Pure PySem.Challenge.rw_rs0157_01.prog w (hd1.heap_1 w.params) p loose mean mg mb 149 1 8 [.ref T] (fun h => IsTup h T #[.int a ta, .int l tl, .int q tq] ∧ 0 ≤ a ∧ a ≤ 3 ∧ 1 ≤ l ∧ l ≤ 2 ∧ 0 ≤ q ∧ q ≤ 1) (IsV fun t => .str (portF a l q) t) := by
  k_fill
  k_with_none
  intro dp un gd cn cs a ccd cl outer A₀ base h₀ L m s Q E hB hF hX hT hcs hdp hun hpre hret
  refine wpAny_call ?_
  ((k_dflt (refine' code_pure ?k1 ?k2 ?k3 ?k5 ?kA ?kF ?kK ?k6 ?k7 ?k8 ?k9 ?kB ?_ ?c2 ?c3 ?c4 ?c5; (case kA => exact rfl); (case kF => exact rfl); (case kK => assumption); (case k1 => k_asm); (case k2 => k_asm); (case k3 => k_asm); (case k5 => k_asm); (case k6 => k_is); (case k7 => k_is); (case k8 => (show _ < _; dsimp only; omega)); (case k9 => exact BindsTo.of_eq rfl); (case c5 => decide); (case kB => exact locs rfl); (case c2 => exact rfl); (case c3 => exact rfl); (case c4 => exact rfl); k_whole)))
  intro g L' h₁ hg F' N' B' X' T'
  (try dsimp only); (try k_fold)
  obtain ⟨ht, ha0, ha1, hl0, hl1, hq0, hq1⟩ := hpre
  rw [← hg] at ht
  (repeat' (first | (k_unfold; (try dsimp only)) | walk1 | (dsimp only; walk1) | (leave1; try dsimp only)))
  exact hret _ _ _ (stays_of hg (by assumption)) (isV_str rfl)
end Mine

-- FH2
open PySem PySem.W PyProof.Rows PyProof
set_option Elab.async false
set_option maxRecDepth 100000
set_option maxHeartbeats 8000000
set_option pp.deepTerms false
set_option pp.deepTerms.threshold 6
set_option rowWalk.seconds 0
namespace Mine

noncomputable def TreeIn (h : Heap) (D : Addr) (tr : List (Int × Int)) : Prop :=
  ∃ refs : List Value, h.IsList D refs.toArray ∧ refs.length = tr.length ∧ ∀ j, j < tr.length → ∃ T t u, refs[j]? = some (.ref T) ∧ IsTup h T #[.int (tr.getD j (0, 0)).1 t, .int (tr.getD j (0, 0)).2 u]
noncomputable def GoodTree (tr : List (Int × Int)) : Prop := ∀ j, j < tr.length → 0 ≤ (tr.getD j (0, 0)).1 ∧ (tr.getD j (0, 0)).1 ≤ j ∧ 1 ≤ (tr.getD j (0, 0)).2 ∧ (tr.getD j (0, 0)).2 ≤ 2
noncomputable def betF (tr : List (Int × Int)) : Nat → Int → Int → Int → Int
  | 0, _, _, n => n
  | f + 1, a, b, n => if a = b then n else if a < b then betF tr f (tr.getD (b - 1).toNat (0, 0)).1 a (n + (tr.getD (b - 1).toNat (0, 0)).2) else betF tr f (tr.getD (a - 1).toNat (0, 0)).1 b (n + (tr.getD (a - 1).toNat (0, 0)).2)
noncomputable def BetW (tr : List (Int × Int)) (R : Int) (a b n : Int) : Prop := ∃ f : Nat, a + b ≤ f ∧ betF tr f a b n = R
theorem BetW.stop {tr : List (Int × Int)} {R a b n : Int} (h : BetW tr R a b n) (e : a = b) : n = R := by
  obtain ⟨f, _, h⟩ := h
  cases f with
  | zero => exact h
  | succ f => rw [betF, if_pos e] at h; exact h
theorem BetW.gt {tr : List (Int × Int)} {R a b n : Int} (h : BetW tr R a b n) (hg : GoodTree tr) (h0 : 0 ≤ b) (h1 : b < a) (h2 : a ≤ tr.length) : BetW tr R (tr.getD (a - 1).toNat (0, 0)).1 b (n + (tr.getD (a - 1).toNat (0, 0)).2) := by
  obtain ⟨f, hf, h⟩ := h
  have := hg (a - 1).toNat (by omega)
  cases f with
  | zero => omega
  | succ f =>
    rw [betF, if_neg (by omega), if_neg (by omega)] at h
    exact ⟨f, by omega, h⟩
theorem BetW.lt {tr : List (Int × Int)} {R a b n : Int} (h : BetW tr R a b n) (hg : GoodTree tr) (h0 : 0 ≤ a) (h1 : a < b) (h2 : b ≤ tr.length) : BetW tr R (tr.getD (b - 1).toNat (0, 0)).1 a (n + (tr.getD (b - 1).toNat (0, 0)).2) := by
  obtain ⟨f, hf, h⟩ := h
  have := hg (b - 1).toNat (by omega)
  cases f with
  | zero => omega
  | succ f =>
    rw [betF, if_neg (by omega), if_pos h1] at h
    exact ⟨f, by omega, h⟩
theorem item_tree {prog : Program} {w : World} {A : Around} {E : Value → Shared → Prop} {s : Shared} {g : Heap} {L : Addr} {m : Str → Option Value} {value slice : PySem.Expr} {D : Addr} {refs : List Value} {tr : List (Int × Int)} {k : Int} {u : Tok} {Q : Value → Shared → Prop}
    (F : Fr g L s.heap m) (hl : g.IsList D refs.toArray) (hT : ∀ j, j < tr.length → ∃ T t u, refs[j]? = some (.ref T) ∧ IsTup g T #[.int (tr.getD j (0, 0)).1 t, .int (tr.getD j (0, 0)).2 u]) (hg : GoodTree tr) (hlen : tr.length ≤ 4) (h0 : 0 ≤ k) (h1 : k < tr.length)
    (h : ∀ T t u, IsTup g T #[.int (tr.getD k.toNat (0, 0)).1 t, .int (tr.getD k.toNat (0, 0)).2 u] → 0 ≤ (tr.getD k.toNat (0, 0)).1 → (tr.getD k.toNat (0, 0)).1 ≤ k → 1 ≤ (tr.getD k.toNat (0, 0)).2 → (tr.getD k.toNat (0, 0)).2 ≤ 2 → Q (.ref T) s)
    (hs : subscripted slice false (.ref D) (.int k u) = operate [.ref D, .int k u] (getItem (.ref D) (.int k u)) := by with_unfolding_all rfl) :
    wpAny (model prog w) A (subscriptTail value slice (.ref D) (.int k u)) Q E s := by
  obtain ⟨T, t1, t2, hx, hT1⟩ := hT k.toNat (by omega)
  have hgk := hg k.toNat (by omega)
  have hl' : s.heap.IsList D refs.toArray := stays_list F.keep hl
  exact tail_any hl'.typeIs slot_list_getitem.lookup (wpAny_getItem_list hl' h0 (by omega) (by simpa using hx) (h T t1 t2 hT1 hgk.1 (by omega) hgk.2.2.1 hgk.2.2.2)) hs
local macro_rules | `(tactic| walk_at "subscriptTail") => `(tactic| (k_here; (with_reducible show wpAny _ _ (subscriptTail (PySem.Expr.Name (Str.ofString "tree") _) _ (Value.ref _) (Value.int _ _)) _ _ _); k_dflt (refine item_tree (by assumption) (by assumption) (by assumption) (by assumption) (by assumption) (by omega) (by omega) ?_; intro T' t' u' hT' hg1 hg2 hg3 hg4)))
local macro_rules | `(tactic| walk_at "subscriptTail") => `(tactic| (k_here; (with_reducible show wpAny _ _ (subscriptTail (PySem.Expr.Subscript _ _ _) _ (Value.ref _) (Value.int _ _)) _ _ _); k_dflt (refine tup_at (by exact IsTup.keeps (by assumption) (Fr.keep (by assumption))) (by decide) (by decide) rfl ?_)))
theorem between_ok {w : World} {p : Program} {loose : List Str} {mean : ExcName → Option Value} {mg mb : Str → Option Value} (D : Addr) (tr : List (Int × Int)) (i j : Int) (ti tj : Tok) :
  Pure PySem.Challenge.rw_rs0157_01.prog w (hd1.heap_1 w.params) p loose mean mg mb 163 1 8 [.ref D, .int i ti, .int j tj] (fun h => TreeIn h D tr ∧ GoodTree tr ∧ tr.length ≤ 4 ∧ 0 ≤ i ∧ i ≤ tr.length ∧ 0 ≤ j ∧ j ≤ tr.length) (IsV fun t => .int (betF tr (i + j).toNat i j 0) t) := by
  k_fill
  k_with_none
  w_top off
  intro dp un gd cn cs a ccd cl outer A₀ base h₀ L m s Q E hB hF hX hT hcs hdp hun hpre hret
  refine wpAny_call ?_
  ((k_dflt (refine' code_pure ?k1 ?k2 ?k3 ?k5 ?kA ?kF ?kK ?k6 ?k7 ?k8 ?k9 ?kB ?_ ?c2 ?c3 ?c4 ?c5; (case kA => exact rfl); (case kF => exact rfl); (case kK => assumption); (case k1 => k_asm); (case k2 => k_asm); (case k3 => k_asm); (case k5 => k_asm); (case k6 => k_is); (case k7 => k_is); (case k8 => (show _ < _; dsimp only; omega)); (case k9 => exact BindsTo.of_eq rfl); (case c5 => decide); (case kB => exact locs rfl); (case c2 => exact rfl); (case c3 => exact rfl); (case c4 => exact rfl); k_whole)))
  intro g L' h₁ hg F' N' B' X' T'
  (try dsimp only); (try k_fold)
  obtain ⟨ht, hgt, hlen, hi0, hi1, hj0, hj1⟩ := hpre
  rw [← hg] at ht
  obtain ⟨refs, hl, hrl, hT⟩ := ht
  (repeat' ((fail_if_success (with_reducible show wpAny _ _ (exec (Stmt.While _ _ _ _) _) _ _ _)); first | (k_unfold; (try dsimp only)) | walk1 | (dsimp only; walk1) | (leave1; try dsimp only)))
  k_with "state" => first | exact ⟨by omega, by omega, by omega, by omega, by omega, ⟨_, by omega, rfl⟩⟩ | exact ⟨by omega, by omega, by omega, by omega, by omega, BetW.gt (by assumption) hgt (by omega) (by omega) (by omega)⟩ | exact ⟨by omega, by omega, by omega, by omega, by omega, BetW.lt (by assumption) hgt (by omega) (by omega) (by omega)⟩
  k_while (fun _ a b n => 0 ≤ a ∧ a ≤ tr.length ∧ 0 ≤ b ∧ b ≤ tr.length ∧ 0 ≤ n ∧ BetW tr (betF tr (i + j).toNat i j 0) a b n) (fun _ a b n => (a + b).toNat) "one" "other" "length"
  (repeat' ((fail_if_success (with_reducible show wpAny _ _ (exec (Stmt.While _ _ _ _) _) _ _ _)); first | (k_unfold; (try dsimp only)) | walk1 | (dsimp only; walk1) | (leave1; try dsimp only)))
  exact hret _ _ _ (stays_of hg (by assumption)) (isV_int (BetW.stop (by assumption) (by assumption)))
end Mine

-- FH3
open PySem PySem.W PyProof.Rows PyProof
set_option Elab.async false
set_option maxRecDepth 100000
set_option maxHeartbeats 8000000
set_option pp.deepTerms false
set_option pp.deepTerms.threshold 6
set_option rowWalk.seconds 0
namespace Mine
theorem bits_small {a : Int} (h0 : -(2 ^ 40) ≤ a) (h1 : a ≤ 2 ^ 40) : Builtin.Int.intBits a ≤ 64 := (intBits_le_iff (m := 64)).mpr (by omega)
theorem mul_sm {prog : Program} {w : World} {A : Around} {E : Value → Shared → Prop} {s : Shared} {a b : Int} {t u : Tok} {Q : Value → Shared → Prop} (hm : (-(2 ^ 40) ≤ a ∧ a ≤ 2 ^ 40) ∨ (-(2 ^ 40) ≤ b ∧ b ≤ 2 ^ 40)) (h : Q (.int (a * b) s.toks) { s with toks := s.toks + 1 }) :
    wpAny (model prog w) A (binaryOp .Mult (.int a t) (.int b u)) Q E s := mul_int h (hm.elim (fun x => IntMulOk.of_left (bits_small x.1 x.2)) fun x => IntMulOk.of_right (bits_small x.1 x.2))
local macro_rules | `(tactic| walk_at "binaryOp Mult int int") => `(tactic| (k_dflt (refine mul_sm (by first | (left; omega) | (right; omega)) ?_)))
noncomputable def prodF (l : List Int) : Int := l.foldl (· * ·) 1
noncomputable def stepF (l : List Int) : Int := (-2) ^ (l.length - 1) * prodF l * l.sum
theorem prodF_snoc (l : List Int) (x : Int) : prodF (l ++ [x]) = prodF l * x := by unfold prodF; rw [List.foldl_append]; rfl
theorem prod_bd {p x : Int} {k : Nat} (h0 : 1 ≤ p) (h1 : p ≤ 2 ^ k) (x0 : 1 ≤ x) (x1 : x ≤ 2) : 1 ≤ p * x ∧ p * x ≤ 2 ^ (k + 1) := by
  rw [Int.pow_succ]
  have hx : x = 1 ∨ x = 2 := by omega
  rcases hx with rfl | rfl <;> omega
theorem pow_le16 {k : Nat} (h : k ≤ 4) : (2 : Int) ^ k ≤ 16 := by
  have h : k = 0 ∨ k = 1 ∨ k = 2 ∨ k = 3 ∨ k = 4 := by omega
  rcases h with rfl | rfl | rfl | rfl | rfl <;> decide
theorem sum_bd : ∀ {l : List Int}, (∀ x ∈ l, 1 ≤ x ∧ x ≤ 2) → 0 ≤ l.sum ∧ l.sum ≤ 2 * l.length
  | [], _ => by decide
  | a :: r, h => by
    have h1 := h a (.head _)
    have h2 := sum_bd (l := r) fun x hx => h x (.tail _ hx)
    rw [List.sum_cons, List.length_cons]
    omega

theorem step_ok {w : World} {p : Program} {loose : List Str} {mean : ExcName → Option Value} {mg mb : Str → Option Value} (D : Addr) (us : List Value) (bs : List Int) :
  Pure PySem.Challenge.rw_rs0157_01.prog w (hd1.heap_1 w.params) p loose mean mg mb 170 1 8 [.ref D] (fun h => h.IsList D us.toArray ∧ IntsAre us bs ∧ (∀ x ∈ bs, 1 ≤ x ∧ x ≤ 2) ∧ 2 ≤ bs.length ∧ bs.length ≤ 4) (IsV fun t => .int (stepF bs) t) := by
  k_fill
  k_with_none
  w_top off
  intro dp un gd cn cs a ccd cl outer A₀ base h₀ L m s Q E hB hF hX hT hcs hdp hun hpre hret
  refine wpAny_call ?_
  ((k_dflt (refine' code_pure ?k1 ?k2 ?k3 ?k5 ?kA ?kF ?kK ?k6 ?k7 ?k8 ?k9 ?kB ?_ ?c2 ?c3 ?c4 ?c5; (case kA => exact rfl); (case kF => exact rfl); (case kK => assumption); (case k1 => k_asm); (case k2 => k_asm); (case k3 => k_asm); (case k5 => k_asm); (case k6 => k_is); (case k7 => k_is); (case k8 => (show _ < _; dsimp only; omega)); (case k9 => exact BindsTo.of_eq rfl); (case c5 => decide); (case kB => exact locs rfl); (case c2 => exact rfl); (case c3 => exact rfl); (case c4 => exact rfl); k_whole)))
  intro g L' h₁ hg F' N' B' X' T'
  (try dsimp only); (try k_fold)
  obtain ⟨hll, hI, hmem, hb1, hb2⟩ := hpre
  rw [← hg] at hll
  (repeat' ((fail_if_success (with_reducible show wpAny _ _ (pyIter _) _ _ _)); (fail_if_success (with_reducible show wpAny _ _ (exec (Stmt.For _ _ _ _ _) _) _ _ _)); first | (k_unfold; (try dsimp only)) | walk1 | (dsimp only; walk1) | (leave1; try dsimp only)))
  rename Fr g L' _ _ => FF
  with_unfolding_all refine' For_invVF FF ?k1 ?k2 ?_
  case k1 => exact rfl
  case k2 => exact rfl
  (repeat' ((fail_if_success (with_reducible show wpAny _ _ (pyIter _) _ _ _)); (fail_if_success (with_reducible show wpAny _ _ (exec (Stmt.For _ _ _ _ _) _) _ _ _)); first | (k_unfold; (try dsimp only)) | walk1 | (dsimp only; walk1) | (leave1; try dsimp only)))
  k_with "state" => first | exact ⟨rfl, by decide, by decide⟩ | (have h9 := prod_bd (by assumption) (by assumption) (hmem _ (by assumption)).1 (hmem _ (by assumption)).2; exact ⟨by rw [prodF_snoc]; congr 1, h9.1, by rw [List.length_append]; exact h9.2⟩)
  k_state (fun pre p => p = prodF pre ∧ 1 ≤ p ∧ p ≤ 2 ^ pre.length) "product"
  · have hk9 := hmem kN kMem
    have hl9 : kPre.length ≤ 4 := by
      have h := congrArg List.length kEq
      rw [List.length_append] at h
      omega
    have hp9 := pow_le16 hl9
    (repeat' ((fail_if_success (with_reducible show wpAny _ _ (pyIter _) _ _ _)); (fail_if_success (with_reducible show wpAny _ _ (exec (Stmt.For _ _ _ _ _) _) _ _ _)); first | (k_unfold; (try dsimp only)) | walk1 | (dsimp only; walk1) | (leave1; try dsimp only)))
  · have hul := hI.length
    have hb4 : bs.length = 2 ∨ bs.length = 3 ∨ bs.length = 4 := by omega
    (repeat' ((fail_if_success (with_reducible show wpAny _ _ (pyIter _) _ _ _)); (fail_if_success (with_reducible show wpAny _ _ (exec (Stmt.For _ _ _ _ _) _) _ _ _)); first | (k_unfold; (try dsimp only)) | walk1 | (dsimp only; walk1) | (leave1; try dsimp only)))
    rename _ = prodF _ => hp
    have e1 : ((us.toArray.size : Int) - 1).toNat = bs.length - 1 := by rw [List.size_toArray]; omega
    have e2 : ((us.length : Int) - 1).toNat = bs.length - 1 := by omega
    have e3 : ((bs.length : Int) - 1).toNat = bs.length - 1 := by omega
    first | rw [e1] | rw [e2] | rw [e3]
    obtain ⟨pw, hpw⟩ : ∃ pw, pw = (-2 : Int) ^ (bs.length - 1) := ⟨_, rfl⟩
    rw [← hpw]
    have hpb : -16 ≤ pw ∧ pw ≤ 16 := by rcases hb4 with e | e | e <;> rw [hpw, e] <;> decide
    have hsb := sum_bd hmem
    (repeat' ((fail_if_success (with_reducible show wpAny _ _ (pyIter _) _ _ _)); (fail_if_success (with_reducible show wpAny _ _ (exec (Stmt.For _ _ _ _ _) _) _ _ _)); first | (k_unfold; (try dsimp only)) | walk1 | (dsimp only; walk1) | (leave1; try dsimp only)))
    refine hret _ _ _ (stays_of hg (by assumption)) (isV_int ?_)
    rw [hp, hpw]; rfl
end Mine

-- BaseE
open PySem PySem.W PyProof.Rows PyProof
set_option Elab.async false
set_option maxRecDepth 100000
namespace Mine
noncomputable abbrev Led := List (Addr × Obj)
/-- all but as stands as it stood -/
noncomputable def StaysOff (as : List Addr) (h h' : Heap) : Prop := ∀ b o, b ∉ as → h.get? b = some o → h'.get? b = some o
theorem stays_off {g h' : Heap} {L : Addr} {as : List Addr} {m : Str → Option Value} {s : Shared} (hg : g = hideAll s.heap as) (F : Fr g L h' m) : StaysOff as s.heap h' := fun b o hb e =>
  F.keep b o (by rw [hg]; exact hideAll_get _ e hb)
theorem Fr.staysOff {h₀ h h' : Heap} {L : Addr} {m : Str → Option Value} {tabs : Led} (F : Fr h₀ L h m) (N : News h₀ L h tabs) (k : StaysOff (tabs.map (·.1)) h h') : Fr h₀ L h' m := by
  obtain ⟨oL, a1, a2, hL, a3⟩ := F.ns
  refine ⟨⟨oL, a1, a2, k _ _ (fun q => ?_) hL, a3⟩, fun b o e => k _ _ (fun q => ?_) (F.keep b o e), F.above⟩
  · obtain ⟨r, hr, e⟩ := List.mem_map.mp q
    exact (N r hr).2.1 e
  · obtain ⟨r, hr, e'⟩ := List.mem_map.mp q
    have := (N r hr).2.2
    rw [e', e] at this; cases this

theorem code_T {prog : Program} {w : World} {A A₀ : Around} {s : Shared} {K : Frag} {L : Addr} {h₀ base : Heap} {m mg mb : Str → Option Value} {p : Program} {loose : List Str} {mean : ExcName → Option Value}
    {env : Env} {outer : List Env} {Q E : Value → Shared → Prop} {name qual : Str} {params : Arguments} {body : List Stmt} {scope : Scope} {dV kV doc pm cdv ct oc : Value} {an od : Option Addr} {osl : Array (Option Value)} {f : Addr} {args : Args} {binds : List (Str × Value)} {tabs : Led}
    (B : Below A₀ base outer h₀) (F : Fr h₀ L s.heap m) (X₀ : K.In h₀) (T : Top p loose mean mg mb h₀) (N : News h₀ L s.heap tabs) (hA : A.frames = some (env :: outer)) (hf : env.frame = some L) (hke : env.scope.kind = .function)
    (ho : K.lookup f = some ⟨oc, od, .func (fnOf name qual params body scope dV kV doc pm an cdv ct), osl⟩) (hcd : codeIn K cdv qual = true) (hroom : A.depth < recursionLimit)
    (hbind : BindsTo s (fnOf name qual params body scope dV kV doc pm an cdv ct) args binds) (hloc : ∀ y ∈ binds, scope.names.lookup y.1 = some .local)
    (h : ∀ g L' h₁, g = hideAll s.heap (tabs.map (·.1)) → Fr g L' h₁ (fun y => binds.reverse.lookup y) → News g L' h₁ tabs → Below A base (env :: outer) g → K.In g → Top p loose mean mg mb g → s.heap.objs.size = L' → (∀ q ∈ tabs, q.1 < L') →
      wpAny (model prog w) (A.deeper (envOf qual scope L' f cdv)) (execs body (envOf qual scope L' f cdv))
        (fun fl s' => RetP Q (match fl with | .ret v => v | _ => .none) s')
        (fun e s' => wpAny (model prog w) (A.deeper (envOf qual scope L' f cdv)) (leaving (envOf qual scope L' f cdv) e) (fun _ s'' => E e s'') (fun e' s'' => E e' s'') s')
        { s with heap := h₁, toks := s.toks + binds.length })
    (hco : scope.isCoroutine = false) (hgen : scope.isGenerator = false) (hk : scope.kind = .function)
    (hcell : ∀ x ∈ scope.names, x.2 ≠ .cell) : codeAny (model prog w) A (.call (.ref f) args) (fun r s' => match r with | .ok (.ret v) => Q v s' | .ok _ => False | .error e => E e s') s := by
  have X : K.In s.heap := X₀.keeps F.keep
  obtain ⟨FG, BG, st, lv⟩ := groundX (R := fun _ _ => True) B F N hA hf hke
  refine codeAny_call_def (fd := fnOf name qual params body scope dV kV doc pm an cdv ct) (body := body) (binds := binds) hroom (X _ _ ho) rfl (T.nolimit.keeps F.keep) (codeRec_of X hcd) rfl hbind hcell hloc (fun h₁ hns hk₁ => ?_) hco hgen hk
  exact h _ s.heap.objs.size h₁ rfl ⟨hns, fun b o e => hk₁ b o (of_hideAll _ e), Nat.le_of_eq (hideAll_size _ _)⟩ (fun q hq => ⟨hk₁ _ _ (N q hq).1, Nat.ne_of_lt (Heap.lt_size (N q hq).1), hideAll_none _ (List.mem_map_of_mem hq)⟩) BG (X₀.keeps st) (T.keeps st) rfl fun q hq => Heap.lt_size (N q hq).1

theorem code_TC {prog : Program} {w : World} {A A₀ : Around} {s : Shared} {K : Frag} {L : Addr} {h₀ base : Heap} {m mg mb : Str → Option Value} {p : Program} {loose : List Str} {mean : ExcName → Option Value}
    {env : Env} {outer : List Env} {Q E : Value → Shared → Prop} {name qual : Str} {params : Arguments} {body : List Stmt} {scope : Scope} {dV kV doc pm cdv ct oc : Value} {an od : Option Addr} {osl : Array (Option Value)} {f : Addr} {args : Args} {binds : List (Str × Value)} {tabs : Led}
    (B : Below A₀ base outer h₀) (F : Fr h₀ L s.heap m) (X₀ : K.In h₀) (T : Top p loose mean mg mb h₀) (N : News h₀ L s.heap tabs) (hA : A.frames = some (env :: outer)) (hf : env.frame = some L) (hke : env.scope.kind = .function)
    (ho : K.lookup f = some ⟨oc, od, .func (fnOf name qual params body scope dV kV doc pm an cdv ct), osl⟩) (hcd : codeIn K cdv qual = true) (hroom : A.depth < recursionLimit)
    (hbind : BindsTo s (fnOf name qual params body scope dV kV doc pm an cdv ct) args binds) (hkind : (binds.all fun y => scope.names.lookup y.1 == some .local || scope.names.lookup y.1 == some .cell) = true)
    (hnd : ((cellsFrom 0 scope.names []).map (·.1)).Nodup)
    (h : ∀ g L' h₁ tk cells, g = hideAll s.heap (tabs.map (·.1)) → Fr g L' h₁ (bindL (envOfC qual scope L' f cdv).kindOf binds fun _ => none) → News g L' h₁ (cells ++ tabs) →
      CellsAre (bindC (envOfC qual scope L' f cdv).kindOf binds fun _ => none) (cellsFrom (L' + 1) scope.names []) cells → Below A base (env :: outer) g → K.In g → Top p loose mean mg mb g → s.heap.objs.size = L' → (∀ q ∈ tabs, q.1 < L') →
      wpAny (model prog w) (A.deeper (envOfC qual scope L' f cdv)) (execs body (envOfC qual scope L' f cdv))
        (fun fl s' => RetP Q (match fl with | .ret v => v | _ => .none) s')
        (fun e s' => wpAny (model prog w) (A.deeper (envOfC qual scope L' f cdv)) (leaving (envOfC qual scope L' f cdv) e) (fun _ s'' => E e s'') (fun e' s'' => E e' s'') s')
        { s with heap := h₁, toks := tk })
    (hco : scope.isCoroutine = false) (hgen : scope.isGenerator = false) (hk : scope.kind = .function) :
    codeAny (model prog w) A (.call (.ref f) args) (fun r s' => match r with | .ok (.ret v) => Q v s' | .ok _ => False | .error e => E e s') s := by
  have X : K.In s.heap := X₀.keeps F.keep
  obtain ⟨FG, BG, st, lv⟩ := groundX (R := fun _ _ => True) B F N hA hf hke
  refine codeAny_call_function hroom (X _ _ ho) rfl hco hgen rfl (codeRec_of X hcd) (hbind _ _ _ _ ?_)
  refine wpAny_newFunctionEnv_cells hk (kindsX hkind _) fun env' he s' x => ?_
  subst he
  refine ⟨(T.nolimit.keeps F.keep).keeps x.toInCall.keep, codeAny_func ?_⟩
  obtain ⟨h₁, tk, rfl, _⟩ := x.done
  have hk₁ := x.toInCall.keep
  obtain ⟨cells, NC, Y⟩ := Cl.news (h₀ := s.heap) (Nat.le_refl _) fun n c hm => ⟨x.cell n c (lookup_of_mem_nodup (cellsFrom_names scope.names 0 (s.heap.objs.size + 1) [] [] rfl ▸ hnd) hm), x.above n c hm⟩
  refine h _ s.heap.objs.size h₁ tk cells rfl ⟨x.toInCall.ns, fun b o e => hk₁ b o (of_hideAll _ e), Nat.le_of_eq (hideAll_size _ _)⟩ (fun q hq => ?_) Y BG (X₀.keeps st) (T.keeps st) rfl fun q hq => Heap.lt_size (N q hq).1
  rcases List.mem_append.mp hq with hq | hq
  · refine ⟨(NC q hq).1, (NC q hq).2.1, ?_⟩
    cases z : (hideAll s.heap (tabs.map (·.1))).get? q.1 with
    | none => rfl
    | some o => have := of_hideAll _ z; rw [(NC q hq).2.2] at this; cases this
  · exact ⟨hk₁ _ _ (N q hq).1, Nat.ne_of_lt (Heap.lt_size (N q hq).1), hideAll_none _ (List.mem_map_of_mem hq)⟩

/-- an answer that is a new object (the tables apart) -/
theorem NewObj.ofT {P : Obj → Prop} {g h' : Heap} {s : Shared} {as : List Addr} {L a : Addr} {o : Obj} {news : Led} (hg : g = hideAll s.heap as) (hL : s.heap.objs.size = L) (N : News g L h' news) (hm : (a, o) ∈ news) (ha : a ∉ as) (hp : P o) : NewObj P s.heap (.ref a) h' := by
  refine ⟨a, o, rfl, ?_, (N _ hm).1, hp⟩
  cases z : s.heap.get? a with
  | none => rfl
  | some o' => have := (N _ hm).2.2; rw [hg, hideAll_get _ z ha] at this; cases this
theorem lt_not {tabs : Led} {L a : Nat} (h : ∀ q ∈ tabs, q.1 < L) (ha : L ≤ a) : a ∉ tabs.map (·.1) := fun q => by
  obtain ⟨r, hr, e⟩ := List.mem_map.mp q
  have := h r hr
  rw [e] at this
  exact Nat.lt_irrefl _ (Nat.lt_of_lt_of_le this ha)

/-- a table that is filled, its code beside it -/
structure FilAt (P : Addr) (pos : Pos) (qual : Str) (g : Heap) (tout : Led) : Prop where
  ex : ∃ ps c' oc vs t, tout = [(P, tabObj ps), (c', oc)] ∧ TriplesOk ps.toList ∧ codeAmong pos ps.toList = some (.ref c') ∧ oc.data = .fields vs ∧ vs[1]? = some (.str qual t) ∧ g.get? c' = none
theorem filled_of {h₀ h : Heap} {L P c' : Addr} {pos : Pos} {qual : Str} {news : Led} {ps : Array Value} {oc : Obj} {vs : Array Value} {t : Tok} (N : News h₀ L h news) (h1 : (P, tabObj ps) ∈ news) (h2 : (c', oc) ∈ news) (h3 : TriplesOk ps.toList) (h4 : codeAmong pos ps.toList = some (.ref c')) (h5 : oc.data = .fields vs) (h6 : vs[1]? = some (.str qual t)) : Filled P pos qual h :=
  ⟨ps, c', (N _ h1).1, h3, h4, c', oc, vs, t, rfl, (N _ h2).1, h5, h6⟩

/-- a def that changes nothing old but the tables tin -/
noncomputable def PureE (prog : Program) (w : World) (K : Frag) (p : Program) (loose : List Str) (mean : ExcName → Option Value) (mg mb : Str → Option Value) (f : Addr) (dd uu : Nat) (vs : List Value) (tin : Led) (TO : Heap → Led → Prop) (Pre : Heap → Prop) (Post : Heap → Value → Heap → Prop) : Prop :=
  ∀ (dp un : Nat) (gd : Option (List Code)) (cn : Str) (cs : Scope) (a : Addr) (ccd : Value) (cl : List (Str × Addr)) (outer : List Env) (A₀ : Around) (base h₀ : Heap) (L : Addr) (m : Str → Option Value) (s : Shared) (Q E : Value → Shared → Prop),
    Below A₀ base outer h₀ → Fr h₀ L s.heap m → K.In h₀ → Top p loose mean mg mb h₀ → cs.kind = .function → dp + dd < recursionLimit → un + uu < cLine → News h₀ L s.heap tin → Pre s.heap →
    (∀ v h' tk' tout, StaysOff (tin.map (·.1)) s.heap h' → News h₀ L h' tout → TO s.heap tout → Post s.heap v h' → Q v { s with heap := h', toks := tk' }) →
    wpAny (model prog w) (ktrTop dp un gd cn cs L a ccd cl outer) (call (.ref f) vs) Q E s

theorem PureE.call {prog : Program} {w : World} {K : Frag} {p : Program} {loose : List Str} {mean : ExcName → Option Value} {mg mb : Str → Option Value} {f : Addr} {dd uu : Nat} {vs : List Value} {tin : Led} {TO : Heap → Led → Prop} {Pre : Heap → Prop} {Post : Heap → Value → Heap → Prop}
    (C : PureE prog w K p loose mean mg mb f dd uu vs tin TO Pre Post) {dp un : Nat} {gd : Option (List Code)} {cn : Str} {cs : Scope} {a : Addr} {ccd : Value} {cl : List (Str × Addr)} {outer : List Env} {A₀ : Around} {base h₀ : Heap} {L : Addr} {m : Str → Option Value} {s : Shared} {Q E : Value → Shared → Prop} {news : Led} (own : Led)
    (B : Below A₀ base outer h₀) (F : Fr h₀ L s.heap m) (X : K.In h₀) (T : Top p loose mean mg mb h₀) (N : News h₀ L s.heap news) (hk : cs.kind = .function) (hd : dp + dd < recursionLimit) (hu : un + uu < cLine) (ht : ∀ q ∈ tin, q ∈ news) (ho : ∀ q ∈ own, q ∈ news ∧ q.1 ∉ tin.map (·.1)) (hp : Pre s.heap)
    (ret : ∀ v h' tk' tout, StaysOff (tin.map (·.1)) s.heap h' → TO s.heap tout → Post s.heap v h' → Fr h₀ L h' m → News h₀ L h' (own ++ tout) → Q v { s with heap := h', toks := tk' }) :
    wpAny (model prog w) (ktrTop dp un gd cn cs L a ccd cl outer) (PySem.call (.ref f) vs) Q E s := by
  have NT : News h₀ L s.heap tin := fun q hq => N q (ht q hq)
  refine C dp un gd cn cs a ccd cl outer A₀ base h₀ L m s Q E B F X T hk hd hu NT hp fun v h' tk' tout st N' rr q => ?_
  refine ret v h' tk' tout st rr q (Fr.staysOff F NT st) (fun q hq => ?_)
  rcases List.mem_append.mp hq with hq | hq
  · exact ⟨st _ _ (ho q hq).2 (N q (ho q hq).1).1, (N q (ho q hq).1).2⟩
  · exact N' q hq
theorem News.fresh {g h' : Heap} {s : Shared} {as : List Addr} {L c : Addr} {o : Obj} {news : Led} (hg : g = hideAll s.heap as) (N : News g L h' news) (hm : (c, o) ∈ news) (hc : c ∉ as) : s.heap.get? c = none := by
  cases z : s.heap.get? c with
  | none => rfl
  | some o' => have := (N _ hm).2.2; rw [hg, hideAll_get _ z hc] at this; cases this
theorem News.back {h₀ g h' : Heap} {s : Shared} {L L' : Addr} {m : Str → Option Value} {tin tout news : Led} (F : Fr h₀ L s.heap m) (hN : News h₀ L s.heap tin) (hg : g = hideAll s.heap (tin.map (·.1))) (N : News g L' h' news) (ht : ∀ q ∈ tout, q ∈ news) : News h₀ L h' tout := fun q hq => by
  refine ⟨(N q (ht q hq)).1, ?_⟩
  by_cases hc : q.1 ∈ tin.map (·.1)
  · obtain ⟨r, hr, e⟩ := List.mem_map.mp hc
    rw [← e]; exact (hN r hr).2
  · have z := News.fresh (s := s) hg N (ht q hq) hc
    refine ⟨fun e => ?_, ?_⟩
    · obtain ⟨oL, _, _, hL, _⟩ := F.ns
      rw [e, hL] at z; cases z
    · cases y : h₀.get? q.1 with
      | none => rfl
      | some o' => have := F.keep _ _ y; rw [z] at this; cases this
theorem News.sub {h₀ h : Heap} {L : Addr} {a b : Led} (N : News h₀ L h a) (k : ∀ q ∈ b, q ∈ a) : News h₀ L h b := fun q hq => N q (k q hq)
theorem News.but {h₀ h h' : Heap} {L D : Addr} {oD oD' : Obj} {news own : Led} (N : News h₀ L h news) (st : StaysBut D h h') (hD : h'.get? D = some oD') (hm : (D, oD) ∈ news) (hx : ∀ q ∈ own, q ∈ news ∧ q.1 ≠ D) : News h₀ L h' ((D, oD') :: own) := fun q hq => by
  rcases List.mem_cons.mp hq with rfl | hq
  · exact ⟨hD, (N _ hm).2⟩
  · exact ⟨st _ _ (hx q hq).2 (N q (hx q hq).1).1, (N q (hx q hq).1).2⟩
end Mine

-- FE1E
open PySem PySem.W PyProof.Rows PyProof
set_option Elab.async false
set_option maxRecDepth 100000
set_option maxHeartbeats 8000000
set_option pp.deepTerms false
set_option pp.deepTerms.threshold 6
set_option rowWalk.seconds 0
namespace Mine

theorem i2dE_ok {w : World} {p : Program} {loose : List Str} {mean : ExcName → Option Value} {mg mb : Str → Option Value} (x : Int) (n : Nat) (tx tn : Tok) :
  PureE PySem.Challenge.rw_rs0157_01.prog w (hd1.heap_1 w.params) p loose mean mg mb 49 64 210 [.int x tx, .int n tn] [(44, tabObj #[])] (FilAt 44 (defPos (fnAt w.params 49)) (Str.ofString "_int2digits.<locals>.inner")) (fun h => 0 ≤ x ∧ x < 2 ^ 60 ∧ 1 ≤ n ∧ n ≤ 60) (NewObj (ListI (dg n x.toNat (ndig n x)))) := by
  k_fill
  k_with_none
  w_top off
  intro dp un gd cn cs a ccd cl outer A₀ base h₀ L m s Q E hB hF hX hT hcs hdp hun hN hpre hret
  refine wpAny_call ?_
  ((k_dflt (refine' code_TC ?k1 ?k2 ?k3 ?k5 ?kN ?kA ?kF ?kK ?k6 ?k7 ?k8 ?k9 ?kB ?kD ?_ ?c2 ?c3 ?c4; (case kA => exact rfl); (case kF => exact rfl); (case kK => assumption); (case k1 => k_asm); (case k2 => k_asm); (case k3 => k_asm); (case k5 => k_asm); (case kN => assumption); (case k6 => k_is); (case k7 => k_is); (case k8 => (show _ < _; dsimp only; omega)); (case k9 => exact BindsTo.of_eq rfl); (case kB => exact rfl); (case kD => decide +kernel); (case c2 => exact rfl); (case c3 => exact rfl); (case c4 => exact rfl); k_whole)))
  intro g L' h₁ tk' cells' hg F' N' Y' B' X' T' hsz hl0
  have hl44 := ltN (hl0 _ (List.Mem.head _))
  dsimp only at hl44
  clear hl0
  k_cells Y'
  (try simp only [List.cons_append, List.nil_append] at N')
  (try dsimp only); (try k_fold)
  obtain ⟨h0, h1, h2, h3⟩ := hpre
  obtain ⟨hk1, hk60, hkx⟩ := ndig_eq h2 h0 h1
  have hC : CodeHd g 48 44 := codeHd_of_K X' (by kernel_rfl)
  (repeat' ((fail_if_success (with_reducible show wpAny _ _ (binaryOp Operator.Mult (Value.ref _) _) _ _ _)); (fail_if_success (with_reducible show wpAny _ _ (exec (Stmt.FunctionDef _ _ _ _ _ _ _ _ _ _) _) _ _ _)); (fail_if_success (with_reducible show wpAny _ _ (PySem.call (Value.ref _) [_, _, _]) _ _ _)); first | (k_unfold; (try dsimp only)) | walk1 | (dsimp only; walk1) | (leave1; try dsimp only)))
  rw [hk1]
  refine mul_zero0 (by assumption) (by assumption) (by is_list) (by omega) ?_
  intro D us h' hI F' N' hlt
  k_lt hlt
  (repeat' ((fail_if_success (with_reducible show wpAny _ _ (binaryOp Operator.Mult (Value.ref _) _) _ _ _)); (fail_if_success (with_reducible show wpAny _ _ (exec (Stmt.FunctionDef _ _ _ _ _ _ _ _ _ _) _) _ _ _)); (fail_if_success (with_reducible show wpAny _ _ (PySem.call (Value.ref _) [_, _, _]) _ _ _)); first | (k_unfold; (try dsimp only)) | walk1 | (dsimp only; walk1) | (leave1; try dsimp only)))
  refine nestDef_K rfl rfl rfl ?_
  refine nest_K (by assumption) (by assumption) T' hC rfl (by k_updF) (by kn_triples) rfl rfl ?_
  intro f c1 oc1 vs1 t1 ctv doc h' tk F' N' d1 d2 l1 l2
  (try dsimp only at N')
  k_lt l1
  k_lt2 l2
  have hIl := hI.length
  rw [List.length_replicate] at hIl
  (repeat' ((fail_if_success (with_reducible show wpAny _ _ (binaryOp Operator.Mult (Value.ref _) _) _ _ _)); (fail_if_success (with_reducible show wpAny _ _ (exec (Stmt.FunctionDef _ _ _ _ _ _ _ _ _ _) _) _ _ _)); (fail_if_success (with_reducible show wpAny _ _ (PySem.call (Value.ref _) [_, _, _]) _ _ _)); first | (k_unfold; (try dsimp only)) | walk1 | (dsimp only; walk1) | (leave1; try dsimp only)))
  · refine kst_len (by assumption) (by k_mem) hIl (by omega) ?_
    (repeat' ((fail_if_success (with_reducible show wpAny _ _ (binaryOp Operator.Mult (Value.ref _) _) _ _ _)); (fail_if_success (with_reducible show wpAny _ _ (exec (Stmt.FunctionDef _ _ _ _ _ _ _ _ _ _) _) _ _ _)); (fail_if_success (with_reducible show wpAny _ _ (PySem.call (Value.ref _) [_, _, _]) _ _ _)); first | (k_unfold; (try dsimp only)) | walk1 | (dsimp only; walk1) | (leave1; try dsimp only)))
    have hk0 : 1 ≤ ndig n x := by
      rcases Nat.eq_zero_or_pos (ndig n x) with hz | hz
      · rw [hz, Nat.mul_zero] at hkx; omega
      · exact hz
    rename News g L' _ _ => NN
    refine inner_ok (ca := L' + 1 + 1) (ci := L' + 1 + 1 + 1) (cn := L' + 1) (doc := doc) (pm := _) (ctv := ctv) (c' := c1) (tn := tn) (qual := Str.ofString "_int2digits.<locals>.inner") h2 h3 rfl rfl rfl (ndig n x) hk0 hk60 _ _ _ _ _ _ us _ 0 _ _ _ _ _ _ _ _ _ _ _ g L' _ _ _ _ (by omega) (by omega) (by rw [List.length_replicate]; omega) (by rw [List.length_replicate]; omega) h0 h1 hkx B' (by assumption) X' T' rfl (by show _ < _; dsimp only; omega) (by show _ < _; dsimp only; omega) ⟨(NN _ (by k_mem)).1, ⟨c1, oc1, vs1, t1, rfl, (NN (c1, oc1) (by k_mem)).1, d1, d2⟩, ⟨_, (NN (L' + 1 + 1, _) (by k_mem)).1, by assumption⟩, ⟨_, (NN (L' + 1 + 1 + 1, _) (by k_mem)).1, by assumption⟩, ⟨_, (NN (L' + 1, _) (by k_mem)).1, by assumption⟩, ⟨_, _, (NN (D, _) (by k_mem)).1⟩⟩ (NN (D, _) (by k_mem)).1 (NN (D, _) (by k_mem)).2.2 (NN (D, _) (by k_mem)).2.1 hI ?_
    intro us2 h2 tk2 st2 hD2 hI2
    rw [show (0 : Int).toNat = 0 from rfl, put_full (by rw [dg_len, List.length_replicate])] at hI2
    have F2 := Fr.staysBut (by assumption : Fr g L' _ _) st2 (NN (D, _) (by k_mem)).2.2 (NN (D, _) (by k_mem)).2.1
    have N2 := News.but (D := D) (own := [(L' + 1 + 1, _), (44, _), (c1, _)]) NN st2 hD2 (by k_mem) (List.forall_mem_cons.mpr ⟨⟨by k_mem, by k_ne⟩, List.forall_mem_cons.mpr ⟨⟨by k_mem, by k_ne⟩, List.forall_mem_cons.mpr ⟨⟨by k_mem, by k_ne⟩, List.forall_mem_nil _⟩⟩⟩)
    clear st2 NN
    (repeat' ((fail_if_success (with_reducible show wpAny _ _ (binaryOp Operator.Mult (Value.ref _) _) _ _ _)); (fail_if_success (with_reducible show wpAny _ _ (exec (Stmt.FunctionDef _ _ _ _ _ _ _ _ _ _) _) _ _ _)); (fail_if_success (with_reducible show wpAny _ _ (PySem.call (Value.ref _) [_, _, _]) _ _ _)); first | (k_unfold; (try dsimp only)) | walk1 | (dsimp only; walk1) | (leave1; try dsimp only)))
    rename News g L' _ _ => N9
    refine hret _ _ _ [(44, _), (c1, oc1)] (stays_off hg (by assumption)) (News.back hF hN hg N9 (List.forall_mem_cons.mpr ⟨by k_mem, List.forall_mem_cons.mpr ⟨by k_mem, List.forall_mem_nil _⟩⟩)) ⟨_, c1, oc1, vs1, t1, rfl, by kn_triples, by rfl, d1, d2, News.fresh hg N9 (o := oc1) (by k_mem) (lt_not (tabs := [(44, tabObj #[])]) (L := L') (List.forall_mem_cons.mpr ⟨hl44, List.forall_mem_nil _⟩) (by show @LE.le Nat _ _ _; omega))⟩ (NewObj.ofT hg hsz N9 (List.Mem.head _) (lt_not (tabs := [(44, tabObj #[])]) (L := L') (List.forall_mem_cons.mpr ⟨hl44, List.forall_mem_nil _⟩) (by show @LE.le Nat _ _ _; omega)) ⟨_, _, rfl, hI2⟩)
  · rename x = 0 => hx
    subst hx
    rename News g L' _ _ => N9
    refine hret _ _ _ [(44, _), (c1, oc1)] (stays_off hg (by assumption)) (News.back hF hN hg N9 (List.forall_mem_cons.mpr ⟨by k_mem, List.forall_mem_cons.mpr ⟨by k_mem, List.forall_mem_nil _⟩⟩)) ⟨_, c1, oc1, vs1, t1, rfl, by kn_triples, by rfl, d1, d2, News.fresh hg N9 (o := oc1) (by k_mem) (lt_not (tabs := [(44, tabObj #[])]) (L := L') (List.forall_mem_cons.mpr ⟨hl44, List.forall_mem_nil _⟩) (by show @LE.le Nat _ _ _; omega))⟩ (NewObj.ofT hg hsz N9 (by k_mem) (lt_not (tabs := [(44, tabObj #[])]) (L := L') (List.forall_mem_cons.mpr ⟨hl44, List.forall_mem_nil _⟩) (by show @LE.le Nat _ _ _; omega)) ⟨us, 0, rfl, ?_⟩)
    rw [ndig_zero h2] at hI ⊢
    exact hI
end Mine

-- FE2E
open PySem PySem.W PyProof.Rows PyProof
set_option Elab.async false
set_option maxRecDepth 100000
set_option maxHeartbeats 8000000
set_option pp.deepTerms false
set_option pp.deepTerms.threshold 6
set_option rowWalk.seconds 0
namespace Mine

theorem d2iE_ok {w : World} {p : Program} {loose : List Str} {mean : ExcName → Option Value} {mg mb : Str → Option Value} (D : Addr) (us : List Value) (ds : List Int) (n : Nat) (tn : Tok) :
  PureE PySem.Challenge.rw_rs0157_01.prog w (hd1.heap_1 w.params) p loose mean mg mb 56 64 210 [.ref D, .int n tn] [(51, tabObj #[])] (FilAt 51 (defPos (fnAt w.params 56)) (Str.ofString "_digits2int.<locals>.inner")) (fun h => h.IsList D us.toArray ∧ IntsAre us ds ∧ ds.length ≤ 60 ∧ (∀ d ∈ ds, 0 ≤ d) ∧ ud n ds < 2 ^ 60 ∧ n ≤ 60) (IsV fun t => .int (ud n ds) t) := by
  k_fill
  k_with_none
  w_top off
  intro dp un gd cn cs a ccd cl outer A₀ base h₀ L m s Q E hB hF hX hT hcs hdp hun hN hpre hret
  refine wpAny_call ?_
  ((k_dflt (refine' code_TC ?k1 ?k2 ?k3 ?k5 ?kN ?kA ?kF ?kK ?k6 ?k7 ?k8 ?k9 ?kB ?kD ?_ ?c2 ?c3 ?c4; (case kA => exact rfl); (case kF => exact rfl); (case kK => assumption); (case k1 => k_asm); (case k2 => k_asm); (case k3 => k_asm); (case k5 => k_asm); (case kN => assumption); (case k6 => k_is); (case k7 => k_is); (case k8 => (show _ < _; dsimp only; omega)); (case k9 => exact BindsTo.of_eq rfl); (case kB => exact rfl); (case kD => decide +kernel); (case c2 => exact rfl); (case c3 => exact rfl); (case c4 => exact rfl); k_whole)))
  intro g L' h₁ tk' cells' hg F' N' Y' B' X' T' hsz hl0
  have hl51 := ltN (hl0 _ (List.Mem.head _))
  dsimp only at hl51
  clear hl0
  k_cells Y'
  (try simp only [List.cons_append, List.nil_append] at N')
  (try dsimp only); (try k_fold)
  obtain ⟨hl, hI, hlen, hpos, hud, h3⟩ := hpre
  have hl : g.IsList D us.toArray := by
    obtain ⟨o, e, hc, r⟩ := hl
    refine ⟨o, ?_, hc, r⟩
    rw [hg]
    refine hideAll_get _ e fun q => ?_
    have e2 := List.mem_singleton.mp q
    have e3 := (hN _ (List.Mem.head _)).1
    dsimp only at e3
    rw [e2, e3] at e; cases e; cases hc
  have hIl := hI.length
  have hC : CodeHd g 55 51 := codeHd_of_K X' (by kernel_rfl)
  (repeat' ((fail_if_success (with_reducible show wpAny _ _ (exec (Stmt.FunctionDef _ _ _ _ _ _ _ _ _ _) _) _ _ _)); (fail_if_success (with_reducible show wpAny _ _ (PySem.call (Value.ref _) [_, _]) _ _ _)); first | (k_unfold; (try dsimp only)) | walk1 | (dsimp only; walk1) | (leave1; try dsimp only)))
  refine nestDef_K rfl rfl rfl ?_
  refine nest_K (by assumption) (by assumption) T' hC rfl (by k_updF) (by kn_triples) rfl rfl ?_
  intro f c1 oc1 vs1 t1 ctv doc h' tk F' N' d1 d2 l1 l2
  (try dsimp only at N')
  k_lt l1
  k_lt2 l2
  (repeat' ((fail_if_success (with_reducible show wpAny _ _ (exec (Stmt.FunctionDef _ _ _ _ _ _ _ _ _ _) _) _ _ _)); (fail_if_success (with_reducible show wpAny _ _ (PySem.call (Value.ref _) [_, _]) _ _ _)); first | (k_unfold; (try dsimp only)) | walk1 | (dsimp only; walk1) | (leave1; try dsimp only)))
  · rename News g L' _ _ => NN
    have hcut : cutl ds (0 : Int).toNat ds.length = ds := by
      unfold cutl
      rw [show (0 : Int).toNat = 0 from rfl, List.drop_zero, List.take_length]
    refine inner2_ok (D := D) (cd := L' + 1) (ci := L' + 1 + 1 + 1) (cn := L' + 1 + 1) (doc := doc) (pm := _) (ctv := ctv) (c' := c1) (tn := tn) (us := us) (qual := Str.ofString "_digits2int.<locals>.inner") h3 hI hlen hpos rfl rfl rfl ds.length (by omega) hlen _ _ _ _ _ _ _ _ _ _ _ _ _ _ _ g L' _ _ _ _ (by omega) (by omega) (by omega) (by rw [hcut]; exact hud) B' (by assumption) X' T' rfl (by show _ < _; dsimp only; omega) (by show _ < _; dsimp only; omega) ⟨(NN (f, _) (by k_mem)).1, ⟨c1, oc1, vs1, t1, rfl, (NN (c1, oc1) (by k_mem)).1, d1, d2⟩, ⟨_, (NN (L' + 1, _) (by k_mem)).1, by assumption⟩, ⟨_, (NN (L' + 1 + 1 + 1, _) (by k_mem)).1, by assumption⟩, ⟨_, (NN (L' + 1 + 1, _) (by k_mem)).1, by assumption⟩, stays_list (Fr.keep (by assumption)) hl⟩ ?_
    intro t2 h2 tk2 st2
    rw [hcut]
    have F2 := Fr.stays (by assumption : Fr g L' _ _) st2
    have N9 := News.stays NN st2
    clear st2 NN
    refine hret _ _ _ [(51, _), (c1, oc1)] (stays_off hg F2) (News.back hF hN hg N9 (List.forall_mem_cons.mpr ⟨by k_mem, List.forall_mem_cons.mpr ⟨by k_mem, List.forall_mem_nil _⟩⟩)) ⟨_, c1, oc1, vs1, t1, rfl, by kn_triples, by rfl, d1, d2, News.fresh hg N9 (o := oc1) (by k_mem) (lt_not (tabs := [(51, tabObj #[])]) (L := L') (List.forall_mem_cons.mpr ⟨hl51, List.forall_mem_nil _⟩) (by show @LE.le Nat _ _ _; omega))⟩ (isV_int rfl)
  · have hz : ds = [] := List.eq_nil_of_length_eq_zero (by omega)
    rename News g L' _ _ => N9
    refine hret _ _ _ [(51, _), (c1, oc1)] (stays_off hg (by assumption)) (News.back hF hN hg N9 (List.forall_mem_cons.mpr ⟨by k_mem, List.forall_mem_cons.mpr ⟨by k_mem, List.forall_mem_nil _⟩⟩)) ⟨_, c1, oc1, vs1, t1, rfl, by kn_triples, by rfl, d1, d2, News.fresh hg N9 (o := oc1) (by k_mem) (lt_not (tabs := [(51, tabObj #[])]) (L := L') (List.forall_mem_cons.mpr ⟨hl51, List.forall_mem_nil _⟩) (by show @LE.le Nat _ _ _; omega))⟩ (isV_int ?_)
    rw [hz]; rfl
end Mine

-- BaseU
open PySem PySem.W PyProof.Rows PyProof
set_option Elab.async false
set_option maxRecDepth 100000
set_option maxHeartbeats 8000000
namespace Mine
noncomputable def Fil1At (w : World) (g : Heap) (t : Led) : Prop := FilAt 44 (defPos (fnAt w.params 49)) (Str.ofString "_int2digits.<locals>.inner") g t
noncomputable def Fil2At (w : World) (g : Heap) (t : Led) : Prop := FilAt 51 (defPos (fnAt w.params 56)) (Str.ofString "_digits2int.<locals>.inner") g t
theorem News.addD {h₀ h h' : Heap} {L a : Addr} {m : Str → Option Value} {o : Obj} {news : Led} (F : Fr h₀ L h m) (N : News h₀ L h' news) (ha : h.get? a = none) (ho : h'.get? a = some o) : News h₀ L h' ((a, o) :: news) := fun p hp => by
  rcases List.mem_cons.mp hp with rfl | hp
  · refine ⟨ho, fun e => ?_, ?_⟩
    · have e' : a = L := e
      subst e'
      obtain ⟨oL, _, _, hL, _⟩ := F.ns
      rw [ha] at hL; cases hL
    · cases q : h₀.get? a with
      | none => rfl
      | some o' => have := F.keep _ _ q; rw [ha] at this; cases this
  · exact N p hp
theorem News.neObj {h₀ h : Heap} {L a b : Addr} {o o' : Obj} {news : Led} (N : News h₀ L h news) (h1 : (a, o) ∈ news) (h2 : (b, o') ∈ news) (hne : o ≠ o') : a ≠ b := fun e => by
  have e1 := (N _ h1).1
  have e2 := (N _ h2).1
  dsimp only at e1 e2
  rw [e, e2] at e1
  exact hne (Option.some.inj e1).symm
noncomputable def Tab1 (w : World) (a : Led) : Prop := a = [(44, tabObj #[])] ∨ ∃ g, Fil1At w g a
noncomputable def Tab2 (w : World) (b : Led) : Prop := b = [(51, tabObj #[])] ∨ ∃ g, Fil2At w g b
/-- the two tables of codes, each empty or filled, the codes beside them -/
noncomputable def TabsOn (w : World) (t : Led) : Prop := ∃ a b, t = a ++ b ∧ Tab1 w a ∧ Tab2 w b
noncomputable def FilA (w : World) (t : Led) : Prop := ∃ a b, t = a ++ b ∧ (∃ g, Fil1At w g a) ∧ Tab2 w b
noncomputable def FilT (w : World) (t : Led) : Prop := ∃ a b, t = a ++ b ∧ (∃ g, Fil1At w g a) ∧ ∃ g, Fil2At w g b
theorem FilA.on {w : World} {t : Led} (h : FilA w t) : TabsOn w t := let ⟨a, b, e, h1, h2⟩ := h; ⟨a, b, e, .inr h1, h2⟩
theorem FilT.on {w : World} {t : Led} (h : FilT w t) : TabsOn w t := let ⟨a, b, e, h1, h2⟩ := h; ⟨a, b, e, .inr h1, .inr h2⟩
theorem FilAt.two {P : Addr} {pos : Pos} {qual : Str} {g : Heap} {t : Led} (h : FilAt P pos qual g t) : t.length = 2 := by
  obtain ⟨ps, c', oc, vs, t', rfl, _⟩ := h; rfl
theorem FilT.four {w : World} {t : Led} (h : FilT w t) : t.length = 4 := by
  obtain ⟨a, b, rfl, ⟨_, h1⟩, ⟨_, h2⟩⟩ := h
  rw [List.length_append, h1.two, h2.two]
theorem not_filT {w : World} {b : Led} (h : FilT w ([(44, tabObj #[])] ++ b)) : False := by
  obtain ⟨a2, b2, e, ⟨_, h1⟩, _⟩ := h
  obtain ⟨ps, c', oc, vs, t', rfl, _, h4, _⟩ := h1
  have e1 := (List.cons.inj e).1
  have e2 : tabObj #[] = tabObj ps := (Prod.mk.inj e1).2
  have e3 : #[] = ps := Data.fields.inj (congrArg Obj.data e2)
  rw [← e3] at h4
  cases h4
/-- what a call makes of the tables t -/
noncomputable def TabsTo (w : World) (t : Led) (g : Heap) (t' : Led) : Prop := TabsOn w t' ∧ (∀ q ∈ t', q.1 ∈ t.map (·.1) ∨ g.get? q.1 = none) ∧ (∀ a ∈ t.map (·.1), a ∈ t'.map (·.1)) ∧ (FilT w t → t' = t)
theorem TabsOn.empty (w : World) : TabsOn w [(44, tabObj #[]), (51, tabObj #[])] := ⟨[_], [_], rfl, .inl rfl, .inl rfl⟩
theorem FilAt.like {P : Addr} {pos : Pos} {qual : Str} {g : Heap} {t : Led} (h : FilAt P pos qual g t) : ∀ q ∈ t, ∃ vs, q.2.data = .fields vs := by
  obtain ⟨ps, c', oc, vs, t', rfl, _, _, h5, _⟩ := h
  exact List.forall_mem_cons.mpr ⟨⟨ps, rfl⟩, List.forall_mem_cons.mpr ⟨⟨vs, h5⟩, List.forall_mem_nil _⟩⟩
theorem TabsOn.like {w : World} {t : Led} (h : TabsOn w t) : ∀ q ∈ t, ∃ vs, q.2.data = .fields vs := by
  obtain ⟨a, b, rfl, ha, hb⟩ := h
  intro q hq
  rcases List.mem_append.mp hq with hq | hq
  · rcases ha with rfl | ⟨g, ha⟩
    · obtain rfl := List.mem_singleton.mp hq; exact ⟨_, rfl⟩
    · exact ha.like q hq
  · rcases hb with rfl | ⟨g, hb⟩
    · obtain rfl := List.mem_singleton.mp hq; exact ⟨_, rfl⟩
    · exact hb.like q hq
theorem News.ne2 {h₀ h : Heap} {L : Addr} {n1 n2 : Led} {p q : Addr × Obj} (N1 : News h₀ L h n1) (N2 : News h₀ L h n2) (h1 : p ∈ n1) (h2 : q ∈ n2) (hne : p.2 ≠ q.2) : p.1 ≠ q.1 := fun e => by
  have e1 := (N1 _ h1).1
  have e2 := (N2 _ h2).1
  rw [e, e2] at e1
  exact hne (Option.some.inj e1).symm
theorem TabsOn.off {w : World} {t news : Led} {h₀ h : Heap} {L a : Addr} {o : Obj} (H : TabsOn w t) (N : News h₀ L h news) (m : (a, o) ∈ news) (ms : ∀ q ∈ t, q ∈ news) (hd : ∀ vs, o.data ≠ .fields vs) : ∀ q ∈ t, q.1 ≠ a := fun q hq => by
  obtain ⟨vs, hv⟩ := H.like q hq
  exact News.ne2 (p := q) (q := (a, o)) N N (ms q hq) m fun e => hd vs (by rw [← hv, e])
theorem StaysOff.more {as bs : List Addr} {h h' : Heap} (k : StaysOff as h h') (hs : ∀ a ∈ as, a ∈ bs) : StaysOff bs h h' := fun b o hb e => k b o (fun q => hb (hs _ q)) e
theorem FilAt.off {P Q : Addr} {pos : Pos} {qual : Str} {g h₀ h : Heap} {L : Addr} {t news : Led} (H : FilAt P pos qual g t) (hPQ : P ≠ Q) (N : News h₀ L h t) (N2 : News h₀ L h news) (hm : (Q, tabObj #[]) ∈ news) : ∀ q ∈ t, q.1 ≠ Q := by
  obtain ⟨ps, c', oc, vs, t', rfl, _, _, h5, h6, _⟩ := H
  refine List.forall_mem_cons.mpr ⟨hPQ, List.forall_mem_cons.mpr ⟨?_, List.forall_mem_nil _⟩⟩
  refine News.ne2 (p := (c', oc)) N N2 (.tail _ (.head _)) hm fun e => ?_
  have e' : oc = tabObj #[] := e
  rw [e'] at h5
  obtain rfl : #[] = vs := Data.fields.inj h5
  simp at h6
theorem filled_led {P : Addr} {pos : Pos} {qual : Str} {g h : Heap} {t : Led} (H : FilAt P pos qual g t) (hh : ∀ q ∈ t, h.get? q.1 = some q.2) : Filled P pos qual h := by
  obtain ⟨ps, c', oc, vs, t', rfl, h3, h4, h5, h6, _⟩ := H
  exact ⟨ps, c', hh _ (.head _), h3, h4, c', oc, vs, t', rfl, hh _ (.tail _ (.head _)), h5, h6⟩
theorem mem_fst {l : Led} {q : Addr × Obj} (h : q ∈ l) : q.1 ∈ l.map (·.1) := List.mem_map_of_mem (f := (·.1)) h

theorem i2dU_ok {w : World} {p : Program} {loose : List Str} {mean : ExcName → Option Value} {mg mb : Str → Option Value} (x : Int) (n : Nat) (tx tn : Tok) (t : Led) (ht : TabsOn w t) :
  PureE PySem.Challenge.rw_rs0157_01.prog w (hd1.heap_1 w.params) p loose mean mg mb 49 64 210 [.int x tx, .int n tn] t (fun g t' => TabsTo w t g t' ∧ FilA w t') (fun h => 0 ≤ x ∧ x < 2 ^ 60 ∧ 1 ≤ n ∧ n ≤ 60) (NewObj (ListI (dg n x.toNat (ndig n x)))) := by
  obtain ⟨a, b, rfl, ha, hb⟩ := ht
  intro dp un gd cn cs ad ccd cl outer A₀ base h₀ L m s Q E hB hF hX hT hcs hdp hun hN hpre hret
  have Na : News h₀ L s.heap a := fun q hq => hN q (List.mem_append_left _ hq)
  have Nb : News h₀ L s.heap b := fun q hq => hN q (List.mem_append_right _ hq)
  rcases ha with rfl | ⟨g0, hfa⟩
  · refine i2dE_ok x n tx tn dp un gd cn cs ad ccd cl outer A₀ base h₀ L m s Q E hB hF hX hT hcs hdp hun Na hpre fun v h' tk' tout st N' fil post => ?_
    have hoff : ∀ q ∈ b, q.1 ≠ 44 := by
      rcases hb with rfl | ⟨g, hb⟩
      · exact List.forall_mem_cons.mpr ⟨show (51 : Nat) ≠ 44 by decide, List.forall_mem_nil _⟩
      · exact hb.off (show (51 : Nat) ≠ 44 by decide) Nb Na (.head _)
    refine hret v h' tk' (tout ++ b) (st.more fun q hq => ?_) (fun q hq => ?_) ⟨⟨⟨tout, b, rfl, .inr ⟨_, fil⟩, hb⟩, fun q hq => ?_, fun x hx => ?_, fun z => (not_filT z).elim⟩, ⟨tout, b, rfl, ⟨_, fil⟩, hb⟩⟩ post
    · rw [List.map_append]; exact List.mem_append_left _ hq
    · rcases List.mem_append.mp hq with hq | hq
      · exact N' q hq
      · exact ⟨st _ _ (fun z => hoff q hq (List.mem_singleton.mp z)) (Nb q hq).1, (Nb q hq).2⟩
    · rcases List.mem_append.mp hq with hq | hq
      · obtain ⟨ps, c', oc, vs, t', rfl, _, _, _, _, h7⟩ := fil
        rcases List.mem_cons.mp hq with rfl | hq
        · exact .inl (.head _)
        · obtain rfl := List.mem_singleton.mp hq; exact .inr h7
      · exact .inl (mem_fst (List.mem_append_right _ hq))
    · rw [List.map_append] at hx ⊢
      rcases List.mem_append.mp hx with hx | hx
      · obtain ⟨ps, c', oc, vs, t', rfl, _⟩ := fil
        obtain rfl := List.mem_singleton.mp hx
        exact List.mem_append_left _ (.head _)
      · exact List.mem_append_right _ hx
  · refine i2dF_ok x n tx tn dp un gd cn cs ad ccd cl outer A₀ base h₀ L m s Q E hB hF hX hT hcs hdp hun ⟨hpre.1, hpre.2.1, hpre.2.2.1, hpre.2.2.2, filled_led hfa fun q hq => (Na q hq).1⟩ fun v h' tk' k post => ?_
    exact hret v h' tk' _ (fun c o _ e => k _ _ e) (News.stays hN k) ⟨⟨⟨a, b, rfl, .inr ⟨g0, hfa⟩, hb⟩, fun q hq => .inl (mem_fst hq), fun _ h => h, fun _ => rfl⟩, ⟨a, b, rfl, ⟨g0, hfa⟩, hb⟩⟩ post

theorem d2iU_ok {w : World} {p : Program} {loose : List Str} {mean : ExcName → Option Value} {mg mb : Str → Option Value} (D : Addr) (us : List Value) (ds : List Int) (n : Nat) (tn : Tok) (t : Led) (ht : FilA w t) :
  PureE PySem.Challenge.rw_rs0157_01.prog w (hd1.heap_1 w.params) p loose mean mg mb 56 64 210 [.ref D, .int n tn] t (fun g t' => TabsTo w t g t' ∧ FilT w t') (fun h => h.IsList D us.toArray ∧ IntsAre us ds ∧ ds.length ≤ 60 ∧ (∀ d ∈ ds, 0 ≤ d) ∧ ud n ds < 2 ^ 60 ∧ n ≤ 60) (IsV fun t => .int (ud n ds) t) := by
  obtain ⟨a, b, rfl, ha, hb⟩ := ht
  intro dp un gd cn cs ad ccd cl outer A₀ base h₀ L m s Q E hB hF hX hT hcs hdp hun hN hpre hret
  have Na : News h₀ L s.heap a := fun q hq => hN q (List.mem_append_left _ hq)
  have Nb : News h₀ L s.heap b := fun q hq => hN q (List.mem_append_right _ hq)
  rcases hb with rfl | ⟨g0, hfb⟩
  · refine d2iE_ok D us ds n tn dp un gd cn cs ad ccd cl outer A₀ base h₀ L m s Q E hB hF hX hT hcs hdp hun Nb hpre fun v h' tk' tout st N' fil post => ?_
    have hoff : ∀ q ∈ a, q.1 ≠ 51 := by
      obtain ⟨g, ha⟩ := ha
      exact ha.off (show (44 : Nat) ≠ 51 by decide) Na Nb (.head _)
    refine hret v h' tk' (a ++ tout) (st.more fun q hq => ?_) (fun q hq => ?_) ⟨⟨⟨a, tout, rfl, .inr ha, .inr ⟨_, fil⟩⟩, fun q hq => ?_, fun x hx => ?_, fun z => ?_⟩, ⟨a, tout, rfl, ha, ⟨_, fil⟩⟩⟩ post
    · rw [List.map_append]; exact List.mem_append_right _ hq
    · rcases List.mem_append.mp hq with hq | hq
      · exact ⟨st _ _ (fun z => hoff q hq (List.mem_singleton.mp z)) (Na q hq).1, (Na q hq).2⟩
      · exact N' q hq
    · rcases List.mem_append.mp hq with hq | hq
      · exact .inl (mem_fst (List.mem_append_left _ hq))
      · obtain ⟨ps, c', oc, vs, t', rfl, _, _, _, _, h7⟩ := fil
        rcases List.mem_cons.mp hq with rfl | hq
        · exact .inl (mem_fst (q := (51, tabObj #[])) (List.mem_append_right _ (.head _)))
        · obtain rfl := List.mem_singleton.mp hq; exact .inr h7
    · rw [List.map_append] at hx ⊢
      rcases List.mem_append.mp hx with hx | hx
      · exact List.mem_append_left _ hx
      · obtain ⟨ps, c', oc, vs, t', rfl, _⟩ := fil
        obtain rfl := List.mem_singleton.mp hx
        exact List.mem_append_right _ (.head _)
    · have z4 := z.four
      obtain ⟨g, ha⟩ := ha
      rw [List.length_append, ha.two] at z4
      simp at z4
  · refine d2iF_ok D us ds n tn dp un gd cn cs ad ccd cl outer A₀ base h₀ L m s Q E hB hF hX hT hcs hdp hun ⟨hpre.1, hpre.2.1, hpre.2.2.1, hpre.2.2.2.1, hpre.2.2.2.2.1, hpre.2.2.2.2.2, filled_led hfb fun q hq => (Nb q hq).1⟩ fun v h' tk' k post => ?_
    exact hret v h' tk' _ (fun c o _ e => k _ _ e) (News.stays hN k) ⟨⟨⟨a, b, rfl, .inr ha, .inr ⟨g0, hfb⟩⟩, fun q hq => .inl (mem_fst hq), fun _ h => h, fun _ => rfl⟩, ⟨a, b, rfl, ha, ⟨g0, hfb⟩⟩⟩ post
theorem up_of {g h1 : Heap} {s : Shared} {L : Addr} {m : Str → Option Value} {t t1 n1 : Led} (hg : g = hideAll s.heap (t.map (·.1))) (F : Fr g L h1 m) (N : News g L h1 n1) (hs : ∀ q ∈ t1, q ∈ n1) (ht : ∀ a ∈ t.map (·.1), a ∈ t1.map (·.1)) : ∀ a, h1.get? a = none → s.heap.get? a = none := fun a ha => by
  cases z : s.heap.get? a with
  | none => rfl
  | some o =>
    exfalso
    by_cases hm : a ∈ t.map (·.1)
    · obtain ⟨r, hr, e⟩ := List.mem_map.mp (ht a hm)
      have := (N r (hs r hr)).1
      rw [e, ha] at this; cases this
    · have := F.keep a o (by rw [hg]; exact hideAll_get _ z hm)
      rw [ha] at this; cases this
theorem TabsTo.up {w : World} {t t1 : Led} {g1 g : Heap} (h : TabsTo w t g1 t1) (hu : ∀ a, g1.get? a = none → g.get? a = none) : TabsTo w t g t1 := ⟨h.1, fun q hq => (h.2.1 q hq).imp id (hu _), h.2.2⟩
theorem TabsTo.trans {w : World} {t t1 t2 : Led} {g : Heap} (h1 : TabsTo w t g t1) (h2 : TabsTo w t1 g t2) : TabsTo w t g t2 := ⟨h2.1, fun q hq => by
  rcases h2.2.1 q hq with h | h
  · obtain ⟨r, hr, e⟩ := List.mem_map.mp h
    rw [← e]; exact h1.2.1 r hr
  · exact .inr h, fun a ha => h2.2.2.1 a (h1.2.2.1 a ha), fun z => by
    have e := h1.2.2.2 z
    subst e
    exact h2.2.2.2 z⟩
theorem TabsTo.notin {w : World} {t t2 news : Led} {g h₀ h : Heap} {L a : Addr} {o : Obj} (H : TabsTo w t g t2) (N : News h₀ L h news) (m : (a, o) ∈ news) (ms : ∀ q ∈ t2, q ∈ news) (hd : ∀ vs, o.data ≠ .fields vs) : a ∉ t.map (·.1) := fun hm => by
  obtain ⟨r, hr, e⟩ := List.mem_map.mp (H.2.2.1 a hm)
  exact H.1.off N m ms hd r hr e
theorem list_hide {w : World} {t : Led} {h₀ g : Heap} {s : Shared} {L D : Addr} {us : Array Value} (H : TabsOn w t) (N : News h₀ L s.heap t) (hg : g = hideAll s.heap (t.map (·.1))) (hl : s.heap.IsList D us) : g.IsList D us := by
  obtain ⟨o, e, hc, vs, hd⟩ := hl
  refine ⟨o, ?_, hc, vs, hd⟩
  rw [hg]
  refine hideAll_get _ e fun q => ?_
  obtain ⟨r, hr, e2⟩ := List.mem_map.mp q
  have e3 := (N r hr).1
  rw [e2, e] at e3
  obtain ⟨ws, hw⟩ := H.like r hr
  rw [← Option.some.inj e3, hd] at hw
  cases hw
theorem allLt_ne {d : Addr} : ∀ {l : Led}, AllLt d l → ∀ q ∈ l, q.1 ≠ d
  | [], _, _, h => nomatch h
  | p :: r, h, q, hq => by
    rcases List.mem_cons.mp hq with rfl | hq
    · exact Nat.ne_of_lt h.1
    · exact allLt_ne h.2 q hq
theorem OwnOff.one {l : Led} {a : Addr} (h : ∀ q ∈ l, q.1 ≠ a) : OwnOff l [a] := fun q hq b hb => by
  rw [List.mem_singleton.mp hb]; exact h q hq
theorem dmp_bd {b r k : Int} (hb0 : 0 < b) (hb30 : b < 2 ^ 30) (hn30 : Builtin.Int.intBits b ≤ 30) (hrr : 0 ≤ r ∧ r < b) (hkm : 0 ≤ k ∧ k < 2 ^ Builtin.Int.intBits b) : 0 ≤ r * 2 ^ (Builtin.Int.intBits b : Int).toNat ∧ r * 2 ^ (Builtin.Int.intBits b : Int).toNat + k < 2 ^ 60 := by
  rw [Int.toNat_natCast]
  refine ⟨Int.mul_nonneg hrr.1 (Int.le_of_lt (Int.pow_pos (by decide))), ?_⟩
  have e1 : r * 2 ^ Builtin.Int.intBits b ≤ (b - 1) * 2 ^ Builtin.Int.intBits b := Int.mul_le_mul_of_nonneg_right (by omega) (Int.le_of_lt (Int.pow_pos (by decide)))
  have e2 : (2 : Int) ^ Builtin.Int.intBits b ≤ 2 ^ 30 := by
    have := Nat.pow_le_pow_right (n := 2) (by decide) hn30
    exact_mod_cast this
  have e3 : b * 2 ^ Builtin.Int.intBits b ≤ 2 ^ 30 * 2 ^ 30 := Int.mul_le_mul (by omega) e2 (Int.le_of_lt (Int.pow_pos (by decide))) (by decide)
  rw [Int.sub_mul] at e1
  generalize (2 : Int) ^ Builtin.Int.intBits b = z at *
  omega
end Mine

-- FU3
open PySem PySem.W PyProof.Rows PyProof
set_option Elab.async false
set_option maxRecDepth 100000
set_option maxHeartbeats 8000000
set_option pp.deepTerms false
set_option pp.deepTerms.threshold 6
set_option rowWalk.seconds 0
namespace Mine
theorem dmpU_ok {w : World} {p : Program} {loose : List Str} {mean : ExcName → Option Value} {mg mb : Str → Option Value} (x b : Int) (tx tb : Tok) (t : Led) (ht : TabsOn w t) :
  PureE PySem.Challenge.rw_rs0157_01.prog w (hd1.heap_1 w.params) p loose mean mg mb 63 66 216 [.int x tx, .int b tb] t (fun g t' => TabsTo w t g t' ∧ FilT w t') (fun h => 0 ≤ x ∧ x < 2 ^ 50 ∧ 0 < b ∧ b < 2 ^ 30) (NewObj (Tup2I (x.fdiv b) (x.fmod b))) := by
  k_fill
  k_with_none
  w_top off
  intro dp un gd cn cs a ccd cl outer A₀ base h₀ L m s Q E hB hF hX hT hcs hdp hun hN hpre hret
  refine wpAny_call ?_
  ((k_dflt (refine' code_T ?k1 ?k2 ?k3 ?k5 ?kN ?kA ?kF ?kK ?k6 ?k7 ?k8 ?k9 ?kB ?_ ?c2 ?c3 ?c4 ?c5; (case kA => exact rfl); (case kF => exact rfl); (case kK => assumption); (case k1 => k_asm); (case k2 => k_asm); (case k3 => k_asm); (case k5 => k_asm); (case kN => assumption); (case k6 => k_is); (case k7 => k_is); (case k8 => (show _ < _; dsimp only; omega)); (case k9 => exact BindsTo.of_eq rfl); (case c5 => decide); (case kB => exact locs rfl); (case c2 => exact rfl); (case c3 => exact rfl); (case c4 => exact rfl); k_whole)))
  intro g L' h₁ hg F' N' B' X' T' hsz hl0
  (try dsimp only); (try k_fold)
  obtain ⟨h0, h1, hb0, hb30⟩ := hpre
  have hn1 : 1 ≤ Builtin.Int.intBits b := by
    rcases Nat.eq_zero_or_pos (Builtin.Int.intBits b) with hz | hz
    · have := (intBits_le_iff (m := 0) (x := b)).mp (by omega)
      simp at this; omega
    · exact hz
  have hn30 : Builtin.Int.intBits b ≤ 30 := (intBits_le_iff (m := 30) (x := b)).mpr (by omega)
  have hb2 : b < 2 ^ Builtin.Int.intBits b := by
    have := (intBits_le_iff (m := Builtin.Int.intBits b) (x := b)).mp (Nat.le_refl _)
    have h6 : ((b.natAbs : Nat) : Int) < ((2 ^ Builtin.Int.intBits b : Nat) : Int) := by exact_mod_cast this
    rw [show ((b.natAbs : Nat) : Int) = b by omega] at h6
    exact_mod_cast h6
  (repeat' ((fail_if_success (with_reducible show wpAny _ _ (pyIter _) _ _ _)); (fail_if_success (with_reducible show wpAny _ _ (PySem.call (Value.ref 49) _) _ _ _)); (fail_if_success (with_reducible show wpAny _ _ (PySem.call (Value.ref 35) _) _ _ _)); (fail_if_success (with_reducible show wpAny _ _ (PySem.call (Value.ref 56) _) _ _ _)); first | (k_unfold; (try dsimp only)) | walk1 | (dsimp only; walk1) | (leave1; try dsimp only)))
  obtain ⟨hk1, hk60, hkx⟩ := ndig_eq hn1 h0 (show x < 2 ^ 60 by omega)
  clear hl0
  rename News g L' _ _ => N0
  rename Fr g L' _ _ => F0
  refine PureE.call (i2dU_ok x (Builtin.Int.intBits b) _ _ t ht) [] B' F0 X' T' N0 rfl (by show _ < _; dsimp only; omega) (by show _ < _; dsimp only; omega) (fun _ h => h) (List.forall_mem_nil _) ⟨h0, by omega, hn1, by omega⟩ ?_
  rintro v h2 tk2 t1 st2 ⟨hto1, hfa1⟩ ⟨D, o, rfl, hD0, hD1, us, c, rfl, hI⟩ F2 N2
  have N3 := News.addD F0 N2 hD0 hD1
  rw [List.nil_append] at N3
  have hDt : OwnOff t1 [D] := fun q hq b hb => by
    rw [List.mem_singleton.mp hb]
    exact hto1.1.off N3 (List.Mem.head _) (fun q hq => List.Mem.tail _ hq) (fun vs e => by cases e) q hq
  have up1 := hto1.up (up_of hg F0 N0 (fun _ h => h) fun _ h => h)
  clear N2 st2 hD0 hD1 N0 F0
  have hIl := hI.length
  rw [dg_len] at hIl
  (repeat' ((fail_if_success (with_reducible show wpAny _ _ (pyIter _) _ _ _)); (fail_if_success (with_reducible show wpAny _ _ (PySem.call (Value.ref 49) _) _ _ _)); (fail_if_success (with_reducible show wpAny _ _ (PySem.call (Value.ref 35) _) _ _ _)); (fail_if_success (with_reducible show wpAny _ _ (PySem.call (Value.ref 56) _) _ _ _)); first | (k_unfold; (try dsimp only)) | walk1 | (dsimp only; walk1) | (leave1; try dsimp only)))
  rename News g L' _ _ => NN
  rename Fr g L' _ _ => FF
  rename_i lq hq4 hlq hq5 I hq7 hlI
  have hnDI : D ≠ I := by (refine neN ?_); omega
  have hnqI : lq ≠ I := by (refine neN ?_); omega
  have hnqD : lq ≠ D := by (refine neN ?_); omega
  have htI := allLt_ne hlI.2.2
  have htq : OwnOff t1 [lq] := OwnOff.one (allLt_ne hlq.2)
  refine kst_rev (σ := (Int × Nat) × (List Value × List Int × Nat)) (l := D) (vs := us) (fun c => (lq, listOf (List.toArray c.2.1) c.2.2.2) :: t1) (fun c => [(Str.ofString "r", .int c.1.1 c.1.2)]) (fun c => IntsAre c.2.1 c.2.2.1) [Str.ofString "q_digit"]
    (fun pre c => c.1.1 = (dm (Builtin.Int.intBits b) b pre.reverse).2 ∧ c.2.2.1 = (dm (Builtin.Int.intBits b) b pre.reverse).1.reverse) ((0, _), ([], [], 0)) rfl (NN (I, _) (by k_mem)).1 ⟨_, (NN (D, _) (by k_mem)).1, rfl, c, rfl⟩ hI hnDI (NN (I, _) (by k_mem)).2.2 (Ne.symm (NN (I, _) (by k_mem)).2.1) (Ne.symm (NN (D, _) (by k_mem)).2.1) FF (News.sub NN (List.forall_mem_cons.mpr ⟨by k_mem, fun q hq => List.Mem.tail _ (List.Mem.tail _ (List.Mem.tail _ hq))⟩)) (List.forall_mem_cons.mpr ⟨⟨hnqI, hnqD⟩, fun q hq => ⟨htI q hq, hDt q hq D (List.Mem.head _)⟩⟩) IntsAre.nil (by kst_all) ⟨rfl, rfl⟩ ?_ ?_
  · intro c pre post k t u h tk own hsplit hoff hfacts hP F' N'
    obtain ⟨⟨r, tr⟩, ⟨qv, qs, ep⟩⟩ := c
    dsimp only [kstB] at hfacts hP F' N'
    obtain ⟨hP1, hP2⟩ := hP
    have hlen := congrArg List.length hsplit
    simp only [List.length_reverse, List.length_append, List.length_cons, dg_len] at hlen
    have kMark := kstMark
    have hqv := hfacts.length
    have hql : qs.length = pre.length := by rw [hP2, List.length_reverse, dm_len, List.length_reverse]
    have hkm := dg_nonneg (Builtin.Int.intBits b) (ndig (Builtin.Int.intBits b) x) x.toNat k (by rw [← List.mem_reverse, hsplit]; simp)
    have hrr := dm_rest (n := Builtin.Int.intBits b) hb0 pre.reverse
    rw [← hP1] at hrr
    obtain ⟨hv0, hv1⟩ := dmp_bd hb0 hb30 hn30 hrr hkm
    have hq9 : OwnOff (t1 ++ own) [lq] := fun q hq b hb => by
      rw [List.mem_singleton.mp hb]
      rcases List.mem_append.mp hq with hq | hq
      · exact htq q hq lq (List.Mem.head _)
      · exact hoff q hq lq (List.Mem.head _)
    rw [List.cons_append] at N'
    (try dsimp only); (try k_fold)
    (repeat' ((fail_if_success (with_reducible show wpAny _ _ (pyIter _) _ _ _)); (fail_if_success (with_reducible show wpAny _ _ (PySem.call (Value.ref 49) _) _ _ _)); (fail_if_success (with_reducible show wpAny _ _ (PySem.call (Value.ref 35) _) _ _ _)); (fail_if_success (with_reducible show wpAny _ _ (PySem.call (Value.ref 56) _) _ _ _)); first | (k_unfold; (try dsimp only)) | walk1 | (dsimp only; walk1) | (leave1; try dsimp only)))
    rename Fr g L' _ _ => FF
    rename News g L' _ _ => NN
    refine Pure.call (div2_ok _ _ _ _ _ _) B' FF X' T' NN rfl (by show _ < _; dsimp only; omega) (by show _ < _; dsimp only; omega) (by (try dsimp only); omega) ?_
    rintro v h6 tk6 st6 ⟨D6, o6, rfl, hD60, hD61, t61, t62, rfl⟩ F6 N6
    have N7 := News.addN FF NN st6 hD60 hD61
    have hne6 := News.neN NN hD60
    clear N6 st6 hD61 hD60 FF NN
    simp only [List.forall_mem_cons] at hne6
    have hnn6 := neN hne6.1
    (try dsimp only)
    (repeat' ((fail_if_success (with_reducible show wpAny _ _ (pyIter _) _ _ _)); (fail_if_success (with_reducible show wpAny _ _ (PySem.call (Value.ref 49) _) _ _ _)); (fail_if_success (with_reducible show wpAny _ _ (PySem.call (Value.ref 35) _) _ _ _)); (fail_if_success (with_reducible show wpAny _ _ (PySem.call (Value.ref 56) _) _ _ _)); first | (k_unfold; (try dsimp only)) | walk1 | (dsimp only; walk1) | (leave1; try dsimp only)))
    rename News g L' _ _ => N9
    rename Fr g L' _ _ => F9
    (try simp only [List.push_toArray] at N9)
    refine kst_end (((r * 2 ^ (Builtin.Int.intBits b : Int).toNat + k).fmod b, _), (qv ++ [.int ((r * 2 ^ (Builtin.Int.intBits b : Int).toNat + k).fdiv b) _], qs ++ [(r * 2 ^ (Builtin.Int.intBits b : Int).toNat + k).fdiv b], ep + 1)) F9 N9 (List.forall_mem_cons.mpr ⟨by k_mem, fun q hq => List.Mem.tail _ (List.Mem.tail _ (List.mem_append_left _ hq))⟩) (fun p hp => List.Mem.tail _ (List.Mem.tail _ (List.mem_append_right _ hp))) rfl (IntsAre.append hfacts (IntsAre.cons _ _ IntsAre.nil)) (by kst_all) (by kst_same) ?_
    refine ⟨?_, ?_⟩
    · rw [List.reverse_append, List.reverse_singleton, List.singleton_append, hP1]; simp only [dm, Int.toNat_natCast]
    · rw [List.reverse_append, List.reverse_singleton, List.singleton_append, hP1, hP2]; simp only [dm, Int.toNat_natCast, List.reverse_cons]
  · intro c u h tk hfacts hP F' N'
    obtain ⟨⟨r, tr⟩, ⟨qv, qs, ep⟩⟩ := c
    dsimp only [kstB] at hfacts hP F' N'
    obtain ⟨hP1, hP2⟩ := hP
    rw [List.reverse_reverse] at hP1 hP2
    have kMark := kstMark
    have hqv := hfacts.length
    have hql : qs.length = ndig (Builtin.Int.intBits b) x := by rw [hP2, List.length_reverse, dm_len, dg_len]
    have hap : ∀ p ∈ t1, p.1 ≠ lq := allLt_ne hlq.2
    (try dsimp only); (try k_fold)
    (repeat' ((fail_if_success (with_reducible show wpAny _ _ (pyIter _) _ _ _)); (fail_if_success (with_reducible show wpAny _ _ (PySem.call (Value.ref 49) _) _ _ _)); (fail_if_success (with_reducible show wpAny _ _ (PySem.call (Value.ref 35) _) _ _ _)); (fail_if_success (with_reducible show wpAny _ _ (PySem.call (Value.ref 56) _) _ _ _)); first | (k_unfold; (try dsimp only)) | walk1 | (dsimp only; walk1) | (leave1; try dsimp only)))
    with_unfolding_all refine reverse_head_ints (by assumption) (by assumption) hap (by assumption) ?_
    intro _ _ _ _
    (repeat' ((fail_if_success (with_reducible show wpAny _ _ (pyIter _) _ _ _)); (fail_if_success (with_reducible show wpAny _ _ (PySem.call (Value.ref 49) _) _ _ _)); (fail_if_success (with_reducible show wpAny _ _ (PySem.call (Value.ref 35) _) _ _ _)); (fail_if_success (with_reducible show wpAny _ _ (PySem.call (Value.ref 56) _) _ _ _)); first | (k_unfold; (try dsimp only)) | walk1 | (dsimp only; walk1) | (leave1; try dsimp only)))
    rename IntsAre (List.reverse _) _ => hI9
    rename News g _ _ _ => N9
    rename Fr g _ _ _ => F9
    rw [hP2, List.reverse_reverse] at hI9
    have hq0 := dm_nonneg (n := Builtin.Int.intBits b) hb0 (dg (Builtin.Int.intBits b) x.toNat (ndig (Builtin.Int.intBits b) x)) (fun d hd => (dg_nonneg _ _ _ d hd).1)
    obtain ⟨hd1, hd2⟩ := dm_div hb0 h0 hkx
    have hq60 : x.fdiv b < 2 ^ 60 := by
      rw [Int.fdiv_eq_ediv_of_nonneg _ (by omega)]
      have := Int.ediv_le_self b h0
      omega
    rw [hd2] at hP1
    subst hP1
    refine PureE.call (d2iU_ok lq _ _ (Builtin.Int.intBits b) _ t1 hfa1) [] B' F9 X' T' N9 rfl (by show _ < _; dsimp only; omega) (by show _ < _; dsimp only; omega) (fun q hq => List.Mem.tail _ hq) (List.forall_mem_nil _) ⟨⟨_, (N9 _ (List.Mem.head _)).1, rfl, ep, rfl⟩, hI9, by rw [dm_len, dg_len]; exact hk60, hq0, by rw [hd1]; exact hq60, by omega⟩ ?_
    rintro v h4 tk4 t2 st4 ⟨hto2, hft2⟩ ⟨t4, rfl⟩ F4 N4
    have up2 := up1.trans (hto2.up (up_of hg F9 N9 (fun q hq => List.Mem.tail _ hq) hto1.2.2.1))
    clear F9 N9 st4
    rw [List.nil_append] at N4
    rw [hd1]
    (repeat' ((fail_if_success (with_reducible show wpAny _ _ (pyIter _) _ _ _)); (fail_if_success (with_reducible show wpAny _ _ (PySem.call (Value.ref 49) _) _ _ _)); (fail_if_success (with_reducible show wpAny _ _ (PySem.call (Value.ref 35) _) _ _ _)); (fail_if_success (with_reducible show wpAny _ _ (PySem.call (Value.ref 56) _) _ _ _)); first | (k_unfold; (try dsimp only)) | walk1 | (dsimp only; walk1) | (leave1; try dsimp only)))
    rename News g _ _ _ => NZ
    rename Fr g _ _ _ => FZ
    exact hret _ _ _ t2 (stays_off hg FZ) (News.back hF hN hg NZ fun q hq => List.Mem.tail _ hq) ⟨up2, hft2⟩ (NewObj.ofT hg hsz NZ (List.Mem.head _) (up2.notin NZ (List.Mem.head _) (fun q hq => List.Mem.tail _ hq) fun vs e => by cases e) ⟨_, _, rfl⟩)
end Mine

-- FU4
open PySem PySem.W PyProof.Rows PyProof
set_option Elab.async false
set_option maxRecDepth 100000
set_option maxHeartbeats 8000000
set_option pp.deepTerms false
set_option pp.deepTerms.threshold 6
set_option rowWalk.seconds 0
namespace Mine
theorem idm1U_ok {w : World} {p : Program} {loose : List Str} {mean : ExcName → Option Value} {mg mb : Str → Option Value} (x b : Int) (tx tb : Tok) (t : Led) (ht : TabsOn w t) :
  PureE PySem.Challenge.rw_rs0157_01.prog w (hd1.heap_1 w.params) p loose mean mg mb 70 68 222 [.int x tx, .int b tb] t (fun g t' => TabsTo w t g t' ∧ FilT w t') (fun h => 0 ≤ x ∧ x < 2 ^ 50 ∧ 0 < b ∧ b < 2 ^ 30) (NewObj (Tup2I (x.fdiv b) (x.fmod b))) := by
  · skip
    k_fill
    k_with_none
    w_top off
    intro dp un gd cn cs a ccd cl outer A₀ base h₀ L m s Q E hB hF hX hT hcs hdp hun hN hpre hret
    refine wpAny_call ?_
    ((k_dflt (refine' code_T ?k1 ?k2 ?k3 ?k5 ?kN ?kA ?kF ?kK ?k6 ?k7 ?k8 ?k9 ?kB ?_ ?c2 ?c3 ?c4 ?c5; (case kA => exact rfl); (case kF => exact rfl); (case kK => assumption); (case k1 => k_asm); (case k2 => k_asm); (case k3 => k_asm); (case k5 => k_asm); (case kN => assumption); (case k6 => k_is); (case k7 => k_is); (case k8 => (show _ < _; dsimp only; omega)); (case k9 => exact BindsTo.of_eq rfl); (case c5 => decide); (case kB => exact locs rfl); (case c2 => exact rfl); (case c3 => exact rfl); (case c4 => exact rfl); k_whole)))
    intro g L' h₁ hg F' N' B' X' T' hsz hl0
    (try dsimp only); (try k_fold)
    clear hl0
    obtain ⟨h0, h1, hb0, hb30⟩ := hpre
    (repeat' ((fail_if_success (with_reducible show wpAny _ _ (PySem.call (Value.ref _) _) _ _ _)); first | (k_unfold; (try dsimp only)) | walk1 | (dsimp only; walk1) | (leave1; try dsimp only)))
    all_goals (try (exfalso; omega))
    rename News g L' _ _ => N0
    rename Fr g L' _ _ => F0
    refine PureE.call (dmpU_ok _ _ _ _ t ht) [] B' F0 X' T' N0 rfl (by show _ < _; dsimp only; omega) (by show _ < _; dsimp only; omega) (fun _ h => h) (List.forall_mem_nil _) ⟨h0, h1, hb0, hb30⟩ ?_
    rintro v h2 tk2 t1 st2 ⟨hto, hft⟩ ⟨D, o, rfl, hD0, hD1, tq, tr, rfl⟩ F2 N2
    have N3 := News.addD F0 N2 hD0 hD1
    have up1 := hto.up (up_of hg F0 N0 (fun _ h => h) fun _ h => h)
    rw [List.nil_append] at N3
    clear N2 st2 hD0 hD1 N0 F0
    (repeat' ((fail_if_success (with_reducible show wpAny _ _ (PySem.call (Value.ref _) _) _ _ _)); first | (k_unfold; (try dsimp only)) | walk1 | (dsimp only; walk1) | (leave1; try dsimp only)))
    rename News g _ _ _ => NZ
    rename Fr g _ _ _ => FZ
    refine hret _ _ _ t1 (stays_off hg FZ) (News.back hF hN hg NZ fun q hq => (by repeat (first | exact hq | refine List.Mem.tail _ ?_))) ⟨up1, hft⟩ (NewObj.ofT hg hsz NZ (List.Mem.head _) (up1.notin NZ (List.Mem.head _) (fun q hq => (by repeat (first | exact hq | refine List.Mem.tail _ ?_))) fun vs e => by cases e) ?_)
    exact ⟨_, _, rfl⟩
theorem not_div {x b : Int} (hb : 0 < b) : (-1 - (-1 - x).fdiv b = x.fdiv b) ∧ b + (-1 - (-1 - x).fmod b) = x.fmod b := by
  have h1 := Int.mul_fdiv_add_fmod x b
  have h2 := Int.mul_fdiv_add_fmod (-1 - x) b
  have h3 := Int.fmod_nonneg_of_pos x hb
  have h4 := Int.fmod_lt_of_pos x hb
  have h5 := Int.fmod_nonneg_of_pos (-1 - x) hb
  have h6 := Int.fmod_lt_of_pos (-1 - x) hb
  generalize x.fdiv b = q at *
  generalize x.fmod b = r at *
  generalize (-1 - x).fdiv b = q' at *
  generalize (-1 - x).fmod b = r' at *
  have e : b * (q + q' + 1) = b - 1 - r - r' := by rw [Int.mul_add, Int.mul_add]; omega
  have hz : q + q' + 1 = 0 := by
    rcases Int.lt_trichotomy (q + q' + 1) 0 with h | h | h
    · have := Int.mul_le_mul_of_nonneg_left (show q + q' + 1 ≤ -1 by omega) (Int.le_of_lt hb); omega
    · exact h
    · have := Int.mul_le_mul_of_nonneg_left (show 1 ≤ q + q' + 1 by omega) (Int.le_of_lt hb); omega
  rw [hz, Int.mul_zero] at e
  omega
theorem idm2U_ok {w : World} {p : Program} {loose : List Str} {mean : ExcName → Option Value} {mg mb : Str → Option Value} (x b : Int) (tx tb : Tok) (t : Led) (ht : TabsOn w t) :
  PureE PySem.Challenge.rw_rs0157_01.prog w (hd1.heap_1 w.params) p loose mean mg mb 70 70 226 [.int x tx, .int b tb] t (fun g t' => TabsTo w t g t' ∧ FilT w t') (fun h => -(2 ^ 50) < x ∧ x < 2 ^ 50 ∧ 0 < b ∧ b < 2 ^ 30) (NewObj (Tup2I (x.fdiv b) (x.fmod b))) := by
  by_cases hneg : 0 ≤ x
  · intro dp un gd cn cs a ccd cl outer A₀ base h₀ L m s Q E hB hF hX hT hcs hdp hun hN hpre hret
    exact idm1U_ok x b tx tb t ht dp un gd cn cs a ccd cl outer A₀ base h₀ L m s Q E hB hF hX hT hcs (by omega) (by omega) hN ⟨hneg, hpre.2⟩ hret
  · skip
    k_fill
    k_with_none
    intro dp un gd cn cs a ccd cl outer A₀ base h₀ L m s Q E hB hF hX hT hcs hdp hun hN hpre hret
    refine wpAny_call ?_
    ((k_dflt (refine' code_T ?k1 ?k2 ?k3 ?k5 ?kN ?kA ?kF ?kK ?k6 ?k7 ?k8 ?k9 ?kB ?_ ?c2 ?c3 ?c4 ?c5; (case kA => exact rfl); (case kF => exact rfl); (case kK => assumption); (case k1 => k_asm); (case k2 => k_asm); (case k3 => k_asm); (case k5 => k_asm); (case kN => assumption); (case k6 => k_is); (case k7 => k_is); (case k8 => (show _ < _; dsimp only; omega)); (case k9 => exact BindsTo.of_eq rfl); (case c5 => decide); (case kB => exact locs rfl); (case c2 => exact rfl); (case c3 => exact rfl); (case c4 => exact rfl); k_whole)))
    intro g L' h₁ hg F' N' B' X' T' hsz hl0
    (try dsimp only); (try k_fold)
    clear hl0
    obtain ⟨h0, h1, hb0, hb30⟩ := hpre
    (repeat' ((fail_if_success (with_reducible show wpAny _ _ (PySem.call (Value.ref _) _) _ _ _)); first | (k_unfold; (try dsimp only)) | walk1 | (dsimp only; walk1) | (leave1; try dsimp only)))
    all_goals (try (exfalso; omega))
    have hnx : ∀ z : Int, Builtin.bitNot z = -1 - z := fun z => by unfold Builtin.bitNot; omega
    rw [hnx]
    rename News g L' _ _ => N0
    rename Fr g L' _ _ => F0
    refine PureE.call (idm1U_ok _ _ _ _ t ht) [] B' F0 X' T' N0 rfl (by show _ < _; dsimp only; omega) (by show _ < _; dsimp only; omega) (fun _ h => h) (List.forall_mem_nil _) ⟨by omega, by omega, hb0, hb30⟩ ?_
    rintro v h2 tk2 t1 st2 ⟨hto, hft⟩ ⟨D, o, rfl, hD0, hD1, tq, tr, rfl⟩ F2 N2
    have N3 := News.addD F0 N2 hD0 hD1
    have up1 := hto.up (up_of hg F0 N0 (fun _ h => h) fun _ h => h)
    rw [List.nil_append] at N3
    clear N2 st2 hD0 hD1 N0 F0
    (repeat' ((fail_if_success (with_reducible show wpAny _ _ (PySem.call (Value.ref _) _) _ _ _)); first | (k_unfold; (try dsimp only)) | walk1 | (dsimp only; walk1) | (leave1; try dsimp only)))
    rename News g _ _ _ => NZ
    rename Fr g _ _ _ => FZ
    refine hret _ _ _ t1 (stays_off hg FZ) (News.back hF hN hg NZ fun q hq => (by repeat (first | exact hq | refine List.Mem.tail _ ?_))) ⟨up1, hft⟩ (NewObj.ofT hg hsz NZ (List.Mem.head _) (up1.notin NZ (List.Mem.head _) (fun q hq => (by repeat (first | exact hq | refine List.Mem.tail _ ?_))) fun vs e => by cases e) ?_)
    rw [hnx, hnx, (not_div hb0).1, (not_div hb0).2]
    exact ⟨_, _, rfl⟩
end Mine

-- FU5
open PySem PySem.W PyProof.Rows PyProof
set_option Elab.async false
set_option maxRecDepth 100000
set_option maxHeartbeats 8000000
set_option pp.deepTerms false
set_option pp.deepTerms.threshold 6
set_option rowWalk.seconds 0
namespace Mine
theorem neg_div {x b : Int} (hb : b < 0) : (-x).fdiv (-b) = x.fdiv b ∧ -((-x).fmod (-b)) = x.fmod b := by
  have e : (-x).fdiv (-b) = x.fdiv b := Int.neg_fdiv_neg x b
  refine ⟨e, ?_⟩
  have h1 := Int.mul_fdiv_add_fmod x b
  have h2 := Int.mul_fdiv_add_fmod (-x) (-b)
  rw [e, Int.neg_mul] at h2
  omega
theorem idm3U_ok {w : World} {p : Program} {loose : List Str} {mean : ExcName → Option Value} {mg mb : Str → Option Value} (x b : Int) (tx tb : Tok) (t : Led) (ht : TabsOn w t) :
  PureE PySem.Challenge.rw_rs0157_01.prog w (hd1.heap_1 w.params) p loose mean mg mb 70 72 230 [.int x tx, .int b tb] t (fun g t' => TabsTo w t g t' ∧ FilT w t') (fun h => -(2 ^ 50) < x ∧ x < 2 ^ 50 ∧ b ≠ 0 ∧ -(2 ^ 30) < b ∧ b < 2 ^ 30) (NewObj (Tup2I (x.fdiv b) (x.fmod b))) := by
  by_cases hneg : 0 < b
  · intro dp un gd cn cs a ccd cl outer A₀ base h₀ L m s Q E hB hF hX hT hcs hdp hun hN hpre hret
    exact idm2U_ok x b tx tb t ht dp un gd cn cs a ccd cl outer A₀ base h₀ L m s Q E hB hF hX hT hcs (by omega) (by omega) hN ⟨hpre.1, hpre.2.1, hneg, hpre.2.2.2.2⟩ hret
  · skip
    k_fill
    k_with_none
    w_top off
    intro dp un gd cn cs a ccd cl outer A₀ base h₀ L m s Q E hB hF hX hT hcs hdp hun hN hpre hret
    refine wpAny_call ?_
    ((k_dflt (refine' code_T ?k1 ?k2 ?k3 ?k5 ?kN ?kA ?kF ?kK ?k6 ?k7 ?k8 ?k9 ?kB ?_ ?c2 ?c3 ?c4 ?c5; (case kA => exact rfl); (case kF => exact rfl); (case kK => assumption); (case k1 => k_asm); (case k2 => k_asm); (case k3 => k_asm); (case k5 => k_asm); (case kN => assumption); (case k6 => k_is); (case k7 => k_is); (case k8 => (show _ < _; dsimp only; omega)); (case k9 => exact BindsTo.of_eq rfl); (case c5 => decide); (case kB => exact locs rfl); (case c2 => exact rfl); (case c3 => exact rfl); (case c4 => exact rfl); k_whole)))
    intro g L' h₁ hg F' N' B' X' T' hsz hl0
    (try dsimp only); (try k_fold)
    clear hl0
    obtain ⟨h0, h1, hb0, hb1, hb30⟩ := hpre
    (repeat' ((fail_if_success (with_reducible show wpAny _ _ (PySem.call (Value.ref _) _) _ _ _)); first | (k_unfold; (try dsimp only)) | walk1 | (dsimp only; walk1) | (leave1; try dsimp only)))
    all_goals (try (exfalso; omega))
    rename News g L' _ _ => N0
    rename Fr g L' _ _ => F0
    refine PureE.call (idm2U_ok _ _ _ _ t ht) [] B' F0 X' T' N0 rfl (by show _ < _; dsimp only; omega) (by show _ < _; dsimp only; omega) (fun _ h => h) (List.forall_mem_nil _) ⟨by omega, by omega, by omega, by omega⟩ ?_
    rintro v h2 tk2 t1 st2 ⟨hto, hft⟩ ⟨D, o, rfl, hD0, hD1, tq, tr, rfl⟩ F2 N2
    have N3 := News.addD F0 N2 hD0 hD1
    have up1 := hto.up (up_of hg F0 N0 (fun _ h => h) fun _ h => h)
    rw [List.nil_append] at N3
    clear N2 st2 hD0 hD1 N0 F0
    (repeat' ((fail_if_success (with_reducible show wpAny _ _ (PySem.call (Value.ref _) _) _ _ _)); first | (k_unfold; (try dsimp only)) | walk1 | (dsimp only; walk1) | (leave1; try dsimp only)))
    rename News g _ _ _ => NZ
    rename Fr g _ _ _ => FZ
    refine hret _ _ _ t1 (stays_off hg FZ) (News.back hF hN hg NZ fun q hq => (by repeat (first | exact hq | refine List.Mem.tail _ ?_))) ⟨up1, hft⟩ (NewObj.ofT hg hsz NZ (List.Mem.head _) (up1.notin NZ (List.Mem.head _) (fun q hq => (by repeat (first | exact hq | refine List.Mem.tail _ ?_))) fun vs e => by cases e) ?_)
    rw [(neg_div (by omega)).1, (neg_div (by omega)).2]
    exact ⟨_, _, rfl⟩
end Mine

-- P10
open PySem PySem.W PyProof.Rows PyProof
set_option Elab.async false
set_option maxRecDepth 100000
set_option linter.unusedVariables false
namespace Mine
/-- sums of the diagonal's costs -/
noncomputable def pa (A B : List Nat) : Nat → Int
  | 0 => 0
  | k + 1 => pa A B k + costN (B.getD k 0) (A.getD k 0)
structure Price (A B : List Nat) : Prop where
  len : A.length = B.length
  low : ∀ k t, k < A.length → t < A.length → costN (B.getD k 0) (A.getD k 0) ≤ costN (B.getD t 0) (A.getD k 0)
  bd : ∀ k, k < A.length → 0 ≤ costN (B.getD k 0) (A.getD k 0) ∧ costN (B.getD k 0) (A.getD k 0) ≤ 2
theorem pa_mono {A B : List Nat} (h : Price A B) : ∀ i j, i ≤ j → j ≤ A.length → pa A B i ≤ pa A B j := by
  intro i j hij
  induction j with
  | zero => intro _; have : i = 0 := by omega
            subst this; exact Int.le_refl _
  | succ j ih =>
    intro hj
    by_cases e : i = j + 1
    · subst e; exact Int.le_refl _
    · have h1 := ih (by omega) (by omega)
      have h2 := (h.bd j (by omega)).1
      show _ ≤ pa A B j + _
      omega
theorem pa_le {A B : List Nat} (h : Price A B) : ∀ j, j ≤ A.length → 0 ≤ pa A B j ∧ pa A B j ≤ 2 * j := by
  intro j
  induction j with
  | zero => intro _; exact ⟨Int.le_refl _, Int.le_refl _⟩
  | succ j ih =>
    intro hj
    have h1 := ih (by omega)
    have h2 := h.bd j (by omega)
    show 0 ≤ pa A B j + _ ∧ pa A B j + _ ≤ _
    omega
theorem fold_inv {σ : Type} (f : σ → Int → σ) (I : Nat → σ → Prop) (s₀ : σ) (h0 : I 0 s₀) : ∀ n, (∀ k, k < n → ∀ s, I k s → I (k + 1) (f s (k : Int))) → I n ((upto n).foldl f s₀)
  | 0, _ => h0
  | n + 1, step => by
    unfold upto
    rw [rangeKs_succ, List.foldl_append]
    exact step n (by omega) _ (fold_inv f I s₀ h0 n fun k hk s hs => step k (by omega) s hs)
structure InI (A B : List Nat) (t k : Nat) (st : DSt) : Prop where
  len : st.2.2.2.length = A.length
  dist : pa A B k ≤ st.1
  res : pa A B k ≤ st.2.1
  row : ∀ j, j < A.length → pa A B (j + 1) ≤ st.2.2.2.getD j 0
  before : k < t → st.2.2.2.getD (t - 1) 0 ≤ pa A B t
  at' : k = t → st.1 ≤ pa A B t
  after : t < k → st.2.2.2.getD t 0 ≤ pa A B (t + 1) ∧ st.2.2.1 ≤ pa A B (t + 1)
  last : 1 ≤ k → st.2.1 = st.2.2.2.getD (k - 1) 0
theorem getD_set {l : List Int} {k j : Nat} {v : Int} (hk : k < l.length) : (l.set k v).getD j 0 = if j = k then v else l.getD j 0 := by
  simp only [List.getD_eq_getElem?_getD, List.getElem?_set]
  by_cases h : k = j
  · subst h; simp [hk]
  · rw [if_neg h, if_neg (Ne.symm h)]
theorem InI.step {A B : List Nat} (h : Price A B) {t k : Nat} (ht : t < A.length) (hk : k < A.length) {st : DSt} (i : InI A B t k st) : InI A B t (k + 1) (inStep (B.getD t 0) A st (k : Int)) := by
  obtain ⟨d, r, mn, row⟩ := st
  obtain ⟨i1, i2, i3, i4, i5, i6, i7, i8⟩ := i
  dsimp only at i1 i2 i3 i4 i5 i6 i7 i8
  have hlow := h.low k t hk ht
  have hbd := h.bd k hk
  have hrow := i4 k hk
  have hpa : pa A B (k + 1) = pa A B k + costN (B.getD k 0) (A.getD k 0) := rfl
  have hkl : k < row.length := by omega
  have hr' : ∃ r', r' = pmin (pmin r (row.getD k 0) + 2) (d + costN (B.getD t 0) (A.getD k 0)) := ⟨_, rfl⟩
  obtain ⟨r', hr'⟩ := hr'
  have hr1 : pa A B (k + 1) ≤ r' := by
    rw [hr']; unfold pmin; split <;> (try split) <;> omega
  have hr2 : r' ≤ d + costN (B.getD t 0) (A.getD k 0) := by
    rw [hr']; unfold pmin; split <;> (try split) <;> omega
  have e : inStep (B.getD t 0) A (d, r, mn, row) (k : Int) = (row.getD k 0, r', if r' < mn then r' else mn, row.set k r') := by
    unfold inStep
    simp only [Int.toNat_natCast]
    rw [← hr']
  rw [e]
  refine ⟨by dsimp only; rw [List.length_set]; exact i1, hrow, hr1, fun j hj => ?_, fun hkt => ?_, fun hkt => ?_, fun hkt => ?_, fun _ => ?_⟩
  · dsimp only
    rw [getD_set hkl]
    split
    · rename_i e; subst e; exact hr1
    · exact i4 j hj
  · dsimp only
    rw [getD_set hkl, if_neg (by omega)]
    exact i5 (by omega)
  · dsimp only
    have := i5 (by omega)
    rwa [show t - 1 = k by omega] at this
  · dsimp only
    by_cases e : k = t
    · subst e
      have h6 := i6 rfl
      have : r' ≤ pa A B (k + 1) := by rw [hpa]; omega
      refine ⟨by rw [getD_set hkl, if_pos rfl]; exact this, ?_⟩
      split <;> omega
    · have h7 := i7 (by omega)
      refine ⟨by rw [getD_set hkl, if_neg (by omega)]; exact h7.1, ?_⟩
      split <;> omega
  · dsimp only
    rw [show k + 1 - 1 = k by omega, getD_set hkl, if_pos rfl]
structure OutI (A B : List Nat) (t : Nat) (q : Int × List Int) : Prop where
  len : q.2.length = A.length
  row : ∀ j, j < A.length → pa A B (j + 1) ≤ q.2.getD j 0
  diag : 1 ≤ t → q.2.getD (t - 1) 0 ≤ pa A B t ∧ q.1 = q.2.getD (A.length - 1) 0
theorem inAll_inv {A B : List Nat} (h : Price A B) {t : Nat} (ht : t < A.length) {q : Int × List Int} (o : OutI A B t q) : InI A B t A.length (inAll (B.getD t 0) A ((t : Int) * 2) q.2) := by
  unfold inAll
  refine fold_inv _ (fun k st => InI A B t k st) _ ?_ _ fun k hk st i => i.step h ht hk
  refine ⟨o.len, by show (0 : Int) ≤ _; dsimp only; omega, by show (0 : Int) ≤ _; dsimp only; omega, o.row, fun hk => (o.diag (by omega)).1, fun e => ?_, fun hk => absurd hk (by omega), fun hk => absurd hk (by omega)⟩
  subst e
  exact Int.le_refl _
theorem row0_getD {n j : Nat} (h : j < n) : (row0 n).getD j 0 = 2 + (j : Int) * 2 := by
  unfold row0 rangeInts
  simp [List.getD_eq_getElem?_getD, h]
theorem levCore_price {A B : List Nat} {b : Int} (h : Price A B) (h1 : 1 ≤ A.length) (hb : pa A B A.length - 1 ≤ b) : levCore A B b = pa A B A.length := by
  have key : (fun t st => (st = none ∧ b + 1 = pa A B A.length) ∨ ∃ q : Int × List Int, st = some q ∧ OutI A B t q) B.length ((upto B.length).foldl (outStep A B b) (some (0, row0 A.length))) := by
    refine fold_inv _ (fun t st => (st = none ∧ b + 1 = pa A B A.length) ∨ ∃ q : Int × List Int, st = some q ∧ OutI A B t q) _ ?_ _ fun t ht st hst => ?_
    · refine .inr ⟨_, rfl, by simp [row0, rangeInts], fun j hj => ?_, fun hz => absurd hz (by omega)⟩
      rw [row0_getD hj]
      have := (pa_le h (j + 1) (by omega)).2
      omega
    · rcases hst with ⟨rfl, e⟩ | ⟨q, rfl, o⟩
      · exact .inl ⟨rfl, e⟩
      · have ht' : t < A.length := by rw [h.len]; exact ht
        have I := inAll_inv h ht' o
        have hm := (I.after ht').2
        have hmono := pa_mono h (t + 1) A.length (by omega) (Nat.le_refl _)
        unfold outStep
        simp only [Option.bind_some, Int.toNat_natCast]
        by_cases hgt : (inAll (B.getD t 0) A ((t : Int) * 2) q.2).2.2.1 > b
        · rw [if_pos hgt]
          exact .inl ⟨rfl, by omega⟩
        · rw [if_neg hgt]
          refine .inr ⟨_, rfl, I.len, I.row, fun _ => ⟨?_, ?_⟩⟩
          · exact (I.after ht').1
          · exact I.last h1
  unfold levCore
  rcases key with ⟨e, e2⟩ | ⟨q, e, o⟩
  · rw [e]; exact e2
  · rw [e]
    have hd := o.diag (by rw [← h.len]; exact h1)
    have hr := o.row (A.length - 1) (by omega)
    rw [show A.length - 1 + 1 = A.length by omega] at hr
    have hd1 := hd.1
    rw [← h.len] at hd1
    show q.1 = _
    omega
end Mine

-- P11
open PySem PySem.W PyProof.Rows PyProof
set_option Elab.async false
set_option maxRecDepth 100000
set_option linter.unusedVariables false
namespace Mine
theorem costN_self (c : Nat) : costN c c = 0 := by unfold costN substF; rw [if_pos rfl]
theorem cp_getD : ∀ {X Y : List Nat} {j : Nat}, j < cp X Y → X.getD j 0 = Y.getD j 0
  | [], [], _, h => by simp [cp] at h
  | [], _ :: _, _, h => by simp [cp] at h
  | _ :: _, [], _, h => by simp [cp] at h
  | a :: r, b :: q, j, h => by
    unfold cp at h
    split at h
    · rename_i e
      subst e
      cases j with
      | zero => rfl
      | succ j => exact cp_getD (X := r) (Y := q) (by omega)
    · omega
theorem getD_drop (X : List Nat) (p j : Nat) : (X.drop p).getD j 0 = X.getD (p + j) 0 := by
  simp [List.getD_eq_getElem?_getD]
theorem getD_take {X : List Nat} {m j : Nat} (h : j < m) : (X.take m).getD j 0 = X.getD j 0 := by
  simp [List.getD_eq_getElem?_getD, List.getElem?_take, h]
theorem pa_zero {X Y : List Nat} {i : Nat} : ∀ r, (∀ j, i ≤ j → j < i + r → X.getD j 0 = Y.getD j 0) → pa X Y (i + r) = pa X Y i
  | 0, _ => rfl
  | r + 1, h => by
    show pa X Y (i + r) + costN (Y.getD (i + r) 0) (X.getD (i + r) 0) = _
    rw [pa_zero r fun j h1 h2 => h j h1 (by omega), h (i + r) (by omega) (by omega), costN_self]
    omega
theorem pa_shift {X Y A B : List Nat} {p : Nat} : ∀ m, (∀ j, j < m → A.getD j 0 = X.getD (p + j) 0 ∧ B.getD j 0 = Y.getD (p + j) 0) → pa X Y (p + m) = pa X Y p + pa A B m
  | 0, _ => by simp [pa]
  | m + 1, h => by
    show pa X Y (p + m) + costN (Y.getD (p + m) 0) (X.getD (p + m) 0) = pa X Y p + (pa A B m + costN (B.getD m 0) (A.getD m 0))
    rw [pa_shift m fun j hj => h j (by omega), (h m (by omega)).1, (h m (by omega)).2]
    omega
theorem levG_price {A B : List Nat} {b : Int} (h : Price A B) (hb : pa A B A.length - 1 ≤ b) : levG A B b = pa A B A.length := by
  have h0 := (pa_le h A.length (Nat.le_refl _)).1
  unfold levG
  by_cases e : A = [] ∨ B = []
  · rw [if_pos e]
    have hl : A.length = 0 := by
      rcases e with e | e
      · rw [e]; rfl
      · rw [h.len, e]; rfl
    rw [hl, ← h.len, hl]
    rfl
  · rw [if_neg e, if_neg (by rw [h.len]; exact Nat.lt_irrefl _), h.len]
    have hl : 1 ≤ A.length := by
      rcases Nat.eq_zero_or_pos A.length with z | z
      · exact absurd (.inl (List.eq_nil_of_length_eq_zero z)) e
      · exact z
    rw [h.len] at hb h0
    split
    · omega
    · rw [← h.len] at hb ⊢
      exact levCore_price h hl hb
theorem levF_price {X Y : List Nat} {b : Int} (h : Price X Y) (hb : pa X Y X.length - 1 ≤ b) : levF X Y b = pa X Y X.length := by
  unfold levF
  by_cases e : X = Y
  · subst e
    rw [if_pos rfl]
    have := pa_zero (X := X) (Y := X) (i := 0) X.length fun _ _ _ => rfl
    rw [Nat.zero_add] at this
    rw [this]; rfl
  · rw [if_neg e]
    have hp1 := cp_le_left X Y
    have hp2 := cp_le_right X Y
    have hpe : ∀ j, j < cp X Y → X.getD j 0 = Y.getD j 0 := fun j hj => cp_getD hj
    generalize hp : cp X Y = p at *
    have hA : (X.drop p).length = X.length - p := by simp
    have hB : (Y.drop p).length = X.length - p := by simp [h.len]
    have hq1 := cp_le_left (X.drop p).reverse (Y.drop p).reverse
    have hqe : ∀ j, j < cp (X.drop p).reverse (Y.drop p).reverse → (X.drop p).reverse.getD j 0 = (Y.drop p).reverse.getD j 0 := fun j hj => cp_getD hj
    dsimp only
    generalize hq : cp (X.drop p).reverse (Y.drop p).reverse = q at *
    rw [List.length_reverse, hA] at hq1
    rw [hA, hB]
    obtain ⟨m, hm⟩ : ∃ m, X.length - p - q = m := ⟨_, rfl⟩
    rw [hm]
    have gA : ∀ j, j < m → ((X.drop p).take m).getD j 0 = X.getD (p + j) 0 := fun j hj => by rw [getD_take hj, getD_drop]
    have gB : ∀ j, j < m → ((Y.drop p).take m).getD j 0 = Y.getD (p + j) 0 := fun j hj => by rw [getD_take hj, getD_drop]
    have lA : ((X.drop p).take m).length = m := by rw [List.length_take, hA]; omega
    have lB : ((Y.drop p).take m).length = m := by rw [List.length_take, hB]; omega
    have hP : Price ((X.drop p).take m) ((Y.drop p).take m) := by
      refine ⟨by rw [lA, lB], fun k t hk ht => ?_, fun k hk => ?_⟩
      · rw [lA] at hk ht
        rw [gA k hk, gB k hk, gB t ht]
        exact h.low _ _ (by omega) (by omega)
      · rw [lA] at hk
        rw [gA k hk, gB k hk]
        exact h.bd _ (by omega)
    have hsum : pa X Y X.length = pa ((X.drop p).take m) ((Y.drop p).take m) m := by
      have e1 : pa X Y p = 0 := by
        have := pa_zero (X := X) (Y := Y) (i := 0) p fun j _ hj => hpe j (by omega)
        rw [Nat.zero_add] at this
        exact this
      have e2 := pa_shift (p := p) m fun j hj => ⟨gA j hj, gB j hj⟩
      have e3 := pa_zero (X := X) (Y := Y) (i := p + m) q fun j h1 h2 => by
        have h3 := hqe (X.length - 1 - j) (by omega)
        rw [getD_rev (by rw [hA]; omega), getD_rev (by rw [hB]; omega), hA, hB, getD_drop, getD_drop] at h3
        rwa [show p + (X.length - p - 1 - (X.length - 1 - j)) = j by omega] at h3
      rw [show p + m + q = X.length by omega] at e3
      rw [e3, e2, e1, Int.zero_add]
    rw [hsum] at hb ⊢
    have := levG_price (b := b) hP (by rw [lA]; exact hb)
    rw [lA] at this
    exact this
end Mine

-- P14
open PySem PySem.W PyProof.Rows PyProof
set_option Elab.async false
set_option maxRecDepth 100000
set_option linter.unusedVariables false
namespace Mine
/-- one step of the elimination -/
noncomputable def newT (old : Nat → Nat → Int) (r : Nat) (last : Int) : Nat → Nat → Int := fun x y =>
  if r < x ∧ r < y then (if r = 0 then old x y * old r r - old x r * old r y else (old x y * old r r - old x r * old r y).fdiv last) else old x y
noncomputable def stg (old new : Nat → Nat → Int) (i j : Nat) : Nat → Nat → Int := fun x y => if x < i ∨ (x = i ∧ y < j) then new x y else old x y
theorem newT_low {old : Nat → Nat → Int} {r x y : Nat} {last : Int} (h : x ≤ r ∨ y ≤ r) : newT old r last x y = old x y := by
  unfold newT; rw [if_neg (by omega)]
theorem stg_start {old : Nat → Nat → Int} {r x y : Nat} {last : Int} : stg old (newT old r last) (r + 1) 0 x y = old x y := by
  unfold stg
  split
  · exact newT_low (by omega)
  · rfl
theorem stg_row {old : Nat → Nat → Int} {r i x y : Nat} {last : Int} : stg old (newT old r last) i (r + 1) x y = stg old (newT old r last) i 0 x y := by
  unfold stg
  by_cases h : x < i
  · rw [if_pos (by omega), if_pos (by omega)]
  · rw [if_neg (show ¬ (x < i ∨ (x = i ∧ y < 0)) by omega)]
    split
    · exact newT_low (by omega)
    · rfl
theorem stg_next {old new : Nat → Nat → Int} {i n x y : Nat} (h : y < n) : stg old new i n x y = stg old new (i + 1) 0 x y := by
  unfold stg
  by_cases h1 : x < i ∨ (x = i ∧ y < n)
  · rw [if_pos h1, if_pos (by omega)]
  · rw [if_neg h1, if_neg (by omega)]
theorem stg_all {old new : Nat → Nat → Int} {n x y : Nat} (h : x < n) : stg old new n 0 x y = new x y := by
  unfold stg; rw [if_pos (by omega)]
theorem stg_old {old new : Nat → Nat → Int} {i j x y : Nat} (h : ¬ (x < i ∨ (x = i ∧ y < j))) : stg old new i j x y = old x y := by
  unfold stg; rw [if_neg h]
theorem stg_low {old : Nat → Nat → Int} {r i j x y : Nat} {last : Int} (h : x ≤ r ∨ y ≤ r) : stg old (newT old r last) i j x y = old x y := by
  unfold stg
  split
  · exact newT_low h
  · rfl
theorem set_stg {old new : Nat → Nat → Int} {i j : Nat} {v : Int} (hv : v = new i j) (x y : Nat) : setT (stg old new i j) i j v x y = stg old new i (j + 1) x y := by
  unfold setT stg
  by_cases h : x = i ∧ y = j
  · rw [if_pos h, if_pos (by omega), hv, h.1, h.2]
  · rw [if_neg h]
    by_cases h1 : x < i ∨ (x = i ∧ y < j)
    · rw [if_pos h1, if_pos (by omega)]
    · rw [if_neg h1, if_neg (by omega)]
theorem small_range {a b : Int} (h0 : 0 ≤ a) (h1 : a ≤ 5) (h2 : 0 ≤ b) (h3 : b ≤ 5) : Builtin.Range.small a b 1 = true := by
  have : ∀ x : Fin 6, ∀ y : Fin 6, Builtin.Range.small (x.val : Int) (y.val : Int) 1 = true := by decide +kernel
  have := this ⟨a.toNat, by omega⟩ ⟨b.toNat, by omega⟩
  dsimp only at this
  rwa [show ((a.toNat : Nat) : Int) = a by omega, show ((b.toNat : Nat) : Int) = b by omega] at this
theorem mul_bd {a b : Int} (ha : -(2 ^ 20) ≤ a) (ha' : a ≤ 2 ^ 20) (hb : -(2 ^ 20) ≤ b) (hb' : b ≤ 2 ^ 20) : -(2 ^ 40) ≤ a * b ∧ a * b ≤ 2 ^ 40 := by
  have h : (a * b).natAbs ≤ 2 ^ 20 * 2 ^ 20 := by
    rw [Int.natAbs_mul]
    exact Nat.mul_le_mul (by omega) (by omega)
  omega
theorem own_off {own1 X : List (Addr × Obj)} {x : Addr × Obj} {Rs : List Addr} {ks : List Nat} {us : List (List Value)} (h : OwnOff own1 ((x :: (rowsLed Rs ks us ++ X)).map (·.1))) (h1 : ks.length = Rs.length) (h2 : us.length = Rs.length) : ∀ p ∈ own1, p.1 ∉ Rs := fun p hp hm => by
  refine h p hp p.1 ?_ rfl
  rw [List.map_cons, List.map_append, rowsLed_fst h1 h2]
  exact List.mem_cons_of_mem _ (List.mem_append_left _ hm)
theorem own_off2 {own1 X Y : List (Addr × Obj)} {x : Addr × Obj} {Rs : List Addr} {ks : List Nat} {us : List (List Value)} (h : OwnOff own1 ((x :: (rowsLed Rs ks us ++ X ++ Y)).map (·.1))) (h1 : ks.length = Rs.length) (h2 : us.length = Rs.length) : ∀ p ∈ own1, p.1 ∉ Rs := by
  rw [List.append_assoc] at h
  exact own_off h h1 h2
theorem led_fst {X : List (Addr × Obj)} {x : Addr × Obj} {Rs : List Addr} {ks : List Nat} {us us' : List (List Value)} (h1 : ks.length = Rs.length) (h2 : us.length = Rs.length) (h3 : us'.length = Rs.length) : (x :: (rowsLed Rs ks us ++ X)).map (·.1) = (x :: (rowsLed Rs ks us' ++ X)).map (·.1) := by
  rw [List.map_cons, List.map_append, rowsLed_fst h1 h2, List.map_cons, List.map_append, rowsLed_fst h1 h3]
theorem newT_val {old T : Nat → Nat → Int} {r i j : Nat} {top last : Int} (hi : r < i) (hj : r < j) (ht : top = old r r) (e1 : T i j = old i j) (e2 : T i r = old i r) (e3 : T r j = old r j) : newT old r last i j = if r = 0 then T i j * top - T i r * T r j else (T i j * top - T i r * T r j).fdiv last := by
  unfold newT
  rw [if_pos ⟨hi, hj⟩, e1, e2, e3, ht]
end Mine

-- P15
open PySem PySem.W PyProof.Rows PyProof
set_option Elab.async false
set_option maxRecDepth 100000
set_option linter.unusedVariables false
namespace Mine
theorem PureE.callF {prog : Program} {w : World} {K : Frag} {p : Program} {loose : List Str} {mean : ExcName → Option Value} {mg mb : Str → Option Value} {f : Addr} {dd uu : Nat} {vs : List Value} {t : Led} {R : Heap → Led → Prop} {Pre : Heap → Prop} {Post : Heap → Value → Heap → Prop}
    (C : PureE prog w K p loose mean mg mb f dd uu vs t (fun g t' => TabsTo w t g t' ∧ R g t') Pre Post) (hft : FilT w t) {dp un : Nat} {gd : Option (List Code)} {cn : Str} {cs : Scope} {a : Addr} {ccd : Value} {cl : List (Str × Addr)} {outer : List Env} {A₀ : Around} {base h₀ : Heap} {L : Addr} {m : Str → Option Value} {s : Shared} {Q E : Value → Shared → Prop} {news : Led}
    (B : Below A₀ base outer h₀) (F : Fr h₀ L s.heap m) (X : K.In h₀) (T : Top p loose mean mg mb h₀) (N : News h₀ L s.heap news) (hk : cs.kind = .function) (hd : dp + dd < recursionLimit) (hu : un + uu < cLine) (ht : ∀ q ∈ t, q ∈ news) (hp : Pre s.heap)
    (ret : ∀ v h' tk', s.heap.StaysIn h' → Post s.heap v h' → Fr h₀ L h' m → News h₀ L h' news → Q v { s with heap := h', toks := tk' }) :
    wpAny (model prog w) (ktrTop dp un gd cn cs L a ccd cl outer) (PySem.call (.ref f) vs) Q E s := by
  have NT : News h₀ L s.heap t := fun q hq => N q (ht q hq)
  refine C dp un gd cn cs a ccd cl outer A₀ base h₀ L m s Q E B F X T hk hd hu NT hp fun v h' tk' tout st N' rr q => ?_
  obtain rfl := rr.1.2.2.2 hft
  have k : s.heap.StaysIn h' := fun b o e => by
    by_cases hm : b ∈ tout.map (·.1)
    · obtain ⟨r, hr, e2⟩ := List.mem_map.mp hm
      have e3 := (NT r hr).1
      rw [e2, e] at e3
      rw [Option.some.inj e3, ← e2]
      exact (N' r hr).1
    · exact st b o hm e
  exact ret v h' tk' k q (Fr.stays F k) (News.stays N k)
theorem filled1_of {w : World} {t news : Led} {h₀ h : Heap} {L : Addr} (H : FilT w t) (N : News h₀ L h news) (ht : ∀ q ∈ t, q ∈ news) : Filled 44 (defPos (fnAt w.params 49)) (Str.ofString "_int2digits.<locals>.inner") h := by
  obtain ⟨a, b, rfl, ⟨g, h1⟩, _⟩ := H
  exact filled_led h1 fun q hq => (N q (ht q (List.mem_append_left _ hq))).1
theorem FilT.tabs {w : World} {t : Led} (H : FilT w t) : (∃ ps, (44, tabObj ps) ∈ t) ∧ ∃ ps, (51, tabObj ps) ∈ t := by
  obtain ⟨a, b, rfl, ⟨_, ps, c', oc, vs, t', rfl, _⟩, ⟨_, ps2, c2, oc2, vs2, t2, rfl, _⟩⟩ := H
  exact ⟨⟨ps, .head _⟩, ⟨ps2, .tail _ (.tail _ (.head _))⟩⟩
theorem rowsLed_like : ∀ {Rs : List Addr} {ks : List Nat} {us : List (List Value)}, ∀ q ∈ rowsLed Rs ks us, ∃ u k, q.2 = listOf u k
  | [], _, _, q, h => by simp [rowsLed] at h
  | R :: Rs, k :: ks, u :: us, q, h => by
    rcases List.mem_cons.mp h with rfl | h
    · exact ⟨_, _, rfl⟩
    · exact rowsLed_like q h
  | _ :: _, [], _, q, h => by simp [rowsLed] at h
  | _ :: _, _ :: _, [], q, h => by simp [rowsLed] at h
theorem rowsLed_snoc : ∀ {Rs : List Addr} {ks : List Nat} {us : List (List Value)} {R : Addr} {k : Nat} {u : List Value}, ks.length = Rs.length → us.length = Rs.length → rowsLed (Rs ++ [R]) (ks ++ [k]) (us ++ [u]) = rowsLed Rs ks us ++ [(R, listOf u.toArray k)]
  | [], [], [], _, _, _, _, _ => rfl
  | R :: Rs, k :: ks, u :: us, _, _, _, h1, h2 => by
    simp only [List.length_cons] at h1 h2
    show _ :: rowsLed (Rs ++ _) (ks ++ _) (us ++ _) = _ :: _
    rw [rowsLed_snoc (by omega) (by omega)]
    rfl
  | [], _ :: _, _, _, _, _, h, _ => by simp at h
  | [], [], _ :: _, _, _, _, _, h => by simp at h
  | _ :: _, [], _, _, _, _, h, _ => by simp at h
  | _ :: _, _ :: _, [], _, _, _, _, h => by simp at h
theorem Fr.norm {g h : Heap} {L : Addr} {m : Str → Option Value} (ps : List (Str × Value)) (F : Fr g L h m) (hp : ∀ p ∈ ps, m p.1 = some p.2) : ∃ u, Fr g L h (kstB u ps) := ⟨m, Fr.kst ps F hp⟩
theorem comp_ind {prog : Program} {w : World} {A : Around} {h₀ : Heap} {L : Addr} {m : Str → Option Value} {env : Env} {elt : PySem.Expr} {x : Str} {scope : Scope} {cl : List (Str × Addr)} {s : Shared} {S : Led → Prop} {P : Nat → Value → Prop} {Fin : List Value → Led → Prop} (J : Nat → List Value → Led → Prop) (n : Nat)
    (turn : ∀ i ys news, i < n → J i ys news → ∀ v I oI C oC D m₂ h tk (E' : Value → Shared → Prop), P i v → LCg.NsObj oC m₂ → m₂ x = some v → Fr h₀ L h m → News h₀ L h ((I, oI) :: (C, oC) :: (D, LCg.lst ys) :: news) → LCg.Off3 I C D news → ((@Ne Nat I C) ∧ (@Ne Nat I D) ∧ (@Ne Nat C D)) →
      wpAny (model prog w) A (eval elt (compEnvC scope cl C env)) (LCg.CompEnd h₀ L m { s with heap := h, toks := tk } I oI C oC D (LCg.lst ys) S (fun y news' => J (i + 1) (ys ++ [y]) news')) E' { s with heap := h, toks := tk })
    (fin : ∀ ys news, J n ys news → Fin ys news) : ∀ k i ys news, i + k = n → J i ys news → LCg.CompRest prog w A h₀ L m env elt x scope cl s S P Fin k i ys news
  | 0, i, ys, news, e, hj => LCg.CompRest.zero (fin ys news (by rw [Nat.add_zero] at e; rw [← e]; exact hj))
  | k + 1, i, ys, news, e, hj => LCg.CompRest.succ fun v I oI C oC D m₂ h tk E' hv hC hx F N off ne =>
    wpAny_mono (turn i ys news (by omega) hj v I oI C oC D m₂ h tk E' hv hC hx F N off ne) (fun y s₂ q => by
      obtain ⟨h', tk', news', e1, F', N', off', hS, r⟩ := q
      exact ⟨h', tk', news', e1, F', N', off', hS, comp_ind J n turn fin k (i + 1) _ _ (by omega) r⟩) fun _ _ z => z
end Mine

-- P8b
open PySem PySem.W PyProof.Rows PyProof
set_option Elab.async false
set_option maxRecDepth 100000
set_option linter.unusedVariables false
namespace Mine
theorem heard_eq (x : Str) : st (scan ((tl (replyF x)).drop 5)) = x := by
  have e1 : tl (Str.ofString "257 \"") = [50, 53, 55, 32, 34] := by decide +kernel
  have e2 : tl (Str.ofString "\" is in \"/\"") = 34 :: 32 :: [105, 115, 32, 105, 110, 32, 34, 47, 34] := by decide +kernel
  unfold replyF
  rw [tl_app, tl_app, e1, e2, rep_dbl]
  show st (scan (StrLaws.dbl 34 (tl x) ++ 34 :: 32 :: _)) = x
  rw [scan_dbl (by simp), st_tl]
theorem reply_take (x : Str) : (tl (replyF x)).take 5 = [50, 53, 55, 32, 34] := by
  have e1 : tl (Str.ofString "257 \"") = [50, 53, 55, 32, 34] := by decide +kernel
  unfold replyF
  rw [tl_app, tl_app, e1]
  rfl
theorem reply_len (x : Str) (h : x.length ≤ 100) : 5 ≤ (replyF x).length ∧ (replyF x).length ≤ 1000 := by
  have h2 := rep_len x
  have e1 : (Str.ofString "257 \"").length = 5 := by decide +kernel
  have e2 : (Str.ofString "\" is in \"/\"").length = 11 := by decide +kernel
  unfold replyF
  rw [Str.length_append, Str.length_append, e1, e2]
  omega
theorem Pure.mono {prog : Program} {w : World} {K : Frag} {p : Program} {loose : List Str} {mean : ExcName → Option Value} {mg mb : Str → Option Value} {f : Addr} {dd uu : Nat} {vs : List Value} {Pre Pre' : Heap → Prop} {Post Post' : Heap → Value → Heap → Prop}
    (C : Pure prog w K p loose mean mg mb f dd uu vs Pre Post) (h1 : ∀ h, Pre' h → Pre h) (h2 : ∀ h v h', Pre' h → Post h v h' → Post' h v h') : Pure prog w K p loose mean mg mb f dd uu vs Pre' Post' :=
  fun dp un gd cn cs a ccd cl outer A₀ base h₀ L m s Q E B F X T hk hd hu hp ret => C dp un gd cn cs a ccd cl outer A₀ base h₀ L m s Q E B F X T hk hd hu (h1 _ hp) fun v h' tk' st q => ret v h' tk' st (h2 _ _ _ hp q)
theorem p257r_ok {w : World} {p : Program} {loose : List Str} {mean : ExcName → Option Value} {mg mb : Str → Option Value} (x : Str) (tx : Tok) :
  Pure PySem.Challenge.rw_rs0157_01.prog w (hd1.heap_1 w.params) p loose mean mg mb 121 1 8 [.str (replyF x) tx] (fun _ => x.length ≤ 100) (IsV fun t => .str x t) :=
  Pure.mono (p257_ok (replyF x) tx) (fun h hp => ⟨(reply_len x hp).1, (reply_len x hp).2, reply_take x⟩) fun h v h' hp q => by
    obtain ⟨t, e⟩ := q
    exact ⟨t, by rw [e, heard_eq]⟩
theorem levV_ok {w : World} {p : Program} {loose : List Str} {mean : ExcName → Option Value} {mg mb : Str → Option Value} (x y : Str) (b v : Int) (tx ty tb : Tok) :
  Pure PySem.Challenge.rw_rs0157_01.prog w (hd1.heap_1 w.params) p loose mean mg mb 28 3 16 [.str x tx, .str y ty, .int b tb] (fun _ => x.length ≤ 40 ∧ y.length ≤ 40 ∧ levF (tl x) (tl y) b = v) (IsV fun t => .int v t) :=
  Pure.mono (lev_ok x y b tx ty tb) (fun h hp => ⟨hp.1, hp.2.1⟩) fun h u h' hp q => by
    obtain ⟨t, e⟩ := q
    exact ⟨t, by rw [e, hp.2.2]⟩
theorem tup_ne_same {prog : Program} {w : World} {A : Around} {E : Value → Shared → Prop} {s : Shared} {h₀ : Heap} {L T1 T2 : Addr} {news : List (Addr × Obj)} {x : Str} {c : Int} {t u t' u' : Tok} {Q : Value → Shared → Prop} (N : News h₀ L s.heap news)
    (h1 : (T1, ({ cls := .type "tuple", data := .seq #[.str x t, .int c u] } : Obj)) ∈ news) (h2 : (T2, ({ cls := .type "tuple", data := .seq #[.str x t', .int c u'] } : Obj)) ∈ news) (hx : PyData.strOk x = true) (hu : A.units + 64 < cLine) (h : Q (.bool false) s) :
    wpAny (model prog w) A (compareOp .NotEq (.ref T1) (.ref T2)) Q E s := by
  have hs : SeqAt.shaped (.tuple [.str x, .int c]) = true := by
    simp [SeqAt.shaped, PyData.canLay0, PyData.canLayAll0, PyData.depth, PyData.depthAll, hx]
  refine ne_dataH (reads_tuple_at (N _ h1).1 rfl rfl (ReadsAll.cons (Reads.str _ _) (ReadsAll.cons (Reads.int _ _) ReadsAll.nil))) (reads_tuple_at (N _ h2).1 rfl rfl (ReadsAll.cons (Reads.str _ _) (ReadsAll.cons (Reads.int _ _) ReadsAll.nil))) hs hs hu ?_
  have e : PyData.eqv (.tuple [.str x, .int c]) (.tuple [.str x, .int c]) = true := by simp [PyData.eqv, PyData.eqvAll]
  rw [e]
  exact h
theorem item_refs {prog : Program} {w : World} {A : Around} {E : Value → Shared → Prop} {s : Shared} {h₀ : Heap} {L : Addr} {news : List (Addr × Obj)} {value slice : Expr} {l : Addr} {vs : List Value} {n : Nat} {k : Int} {u : Tok} {v : Value} {Q : Value → Shared → Prop}
    (N : News h₀ L s.heap news) (hm : (l, ({ cls := .type "list", data := .seq vs.toArray n } : Obj)) ∈ news) (h0 : 0 ≤ k) (h1 : k < 100) (hx : vs[k.toNat]? = some v) (h : Q v s)
    (hs : subscripted slice false (.ref l) (.int k u) = operate [.ref l, .int k u] (getItem (.ref l) (.int k u)) := by with_unfolding_all rfl) :
    wpAny (model prog w) A (subscriptTail value slice (.ref l) (.int k u)) Q E s := by
  have hl : s.heap.IsList l vs.toArray := ⟨_, (N _ hm).1, rfl, _, rfl⟩
  exact tail_any hl.typeIs slot_list_getitem.lookup (wpAny_getItem_list hl h0 (by omega) (by simpa using hx) h) hs
noncomputable def good229B (x : Str) (n : Int) : Bool := decide (x.length ≤ 1000) && (Txt.slice x none (some 3) == Str.ofString "229") && decide (Txt.find x (Str.ofString "(") = 4) &&
  decide (9 ≤ Txt.find3 x (Str.ofString ")") (Txt.find x (Str.ofString "(") + 1)) && decide (Txt.find3 x (Str.ofString ")") (Txt.find x (Str.ofString "(") + 1) < x.length) &&
  (Txt.item x (Txt.find x (Str.ofString "(") + 1) == Txt.item x (Txt.find3 x (Str.ofString ")") (Txt.find x (Str.ofString "(") + 1) - 1)) &&
  (match Txt.split (Txt.slice x (some (Txt.find x (Str.ofString "(") + 1)) (some (Txt.find3 x (Str.ofString ")") (Txt.find x (Str.ofString "(") + 1)))) (Txt.item x (Txt.find x (Str.ofString "(") + 1)) with
    | [_, _, _, d, _] => decide (PySem.intText? d = some n) && decide (d.length ≤ 640)
    | _ => false)
theorem good_of {x : Str} {n : Int} (h : good229B x n = true) : Good229 x n := by
  unfold good229B at h
  simp only [Bool.and_eq_true, decide_eq_true_eq] at h
  obtain ⟨⟨⟨⟨⟨⟨h1, h2⟩, h3⟩, h4⟩, h5⟩, h6⟩, h7⟩ := h
  refine ⟨h1, h2, h3, ⟨h4, h5⟩, by rw [bne, h6]; rfl, ?_⟩
  split at h7
  · rename_i a b c d e heq
    rw [Bool.and_eq_true, decide_eq_true_eq, decide_eq_true_eq] at h7
    exact ⟨a, b, c, d, e, heq, h7.1, h7.2⟩
  · cases h7
end Mine

-- FB1
open PySem PySem.W PyProof.Rows PyProof
set_option Elab.async false
set_option maxRecDepth 100000
set_option maxHeartbeats 8000000
set_option pp.deepTerms false
set_option pp.deepTerms.threshold 6
set_option rowWalk.seconds 0
namespace Mine
noncomputable def lawAt (P : Params) : FuncData := match (hd1.heap_1 P).lookup 175 with
  | some ⟨_, _, .func fd, _⟩ => fd
  | _ => default
noncomputable def lawBody (P : Params) : List Stmt := fnAt P 175
noncomputable def lawScope (P : Params) : Scope := (lawAt P).scope
noncomputable abbrev lawEnv (P : Params) (L a : Addr) (ccd : Value) : Env := envOfC (Str.ofString "law") (lawScope P) L a ccd
noncomputable def forBody : Stmt → List Stmt
  | .For _ _ b _ _ => b
  | _ => []
noncomputable def blkStmt (P : Params) : Stmt := (forBody ((lawBody P).getD 14 default)).getD 2 default
noncomputable def pairStmt (P : Params) : Stmt := (lawBody P).getD 8 default

theorem blk_ok {w : World} {p : Program} {loose : List Str} {mean : ExcName → Option Value} {mg mb : Str → Option Value} {a : Addr} {ccd : Value} {base g : Heap} {L : Addr} {s : Shared} {Q : Flow → Shared → Prop} {E : Value → Shared → Prop} {m₀ : Str → Option Value} {TB : Addr} {kT : Nat} {Rs : List Addr} {ks : List Nat} {us0 : List (List Value)} {old : Nat → Nat → Int} {n : Nat} {r top last : Int} {tr tt tl : Tok} {own t : List (Addr × Obj)}
    (B' : Below callerA base [] g) (F' : Fr g L s.heap (kstB m₀ [(Str.ofString "r", .int r tr), (Str.ofString "top", .int top tt), (Str.ofString "last", .int last tl), (Str.ofString "table", .ref TB)])) (X' : (hd1.heap_1 w.params).In g) (T' : Top p loose mean mg mb g)
    (N' : News g L s.heap ((TB, listOf (Rs.map Value.ref).toArray kT) :: (rowsLed Rs ks us0 ++ own)))
    (hTab : TabOk us0 old n) (hR : Rs.length = n) (hk : ks.length = n) (hn : n ≤ 5) (hnd : Rs.Nodup) (hTB : TB ∉ Rs) (hoff : ∀ p ∈ own, p.1 ∉ Rs)
    (hft : FilT w t) (ht : ∀ q ∈ t, q ∈ own)
    (hr0 : 0 ≤ r) (hrn : r < n) (htop : top = old r.toNat r.toNat) (hbd : ∀ x y, x < n → y < n → -(2 ^ 20) ≤ old x y ∧ old x y ≤ 2 ^ 20) (hl0 : 0 < r → last ≠ 0) (hl1 : -(2 ^ 30) < last) (hl2 : last < 2 ^ 30)
    (hex : 0 < r → ∀ x y, r.toNat < x → x < n → r.toNat < y → y < n → (old x y * top - old x r.toNat * old r.toNat y).fmod last = 0)
    (hE : PassesOwn (model PySem.Challenge.rw_rs0157_01.prog w) (callerA.deeper (lawEnv w.params L a ccd)) (lawEnv w.params L a ccd) E)
    (hret : ∀ us' h' tk' (u : Str → Option Value), TabOk us' (newT old r.toNat last) n → Fr g L h' (fun y => if y = Str.ofString "i" then u y else kstB (fun z => if [Str.ofString "j", Str.ofString "cross", Str.ofString "rest"].contains z then u z else kstB m₀ [(Str.ofString "r", .int r tr), (Str.ofString "top", .int top tt), (Str.ofString "last", .int last tl), (Str.ofString "table", .ref TB)] z) [] y) →
      News g L h' ((TB, listOf (Rs.map Value.ref).toArray kT) :: (rowsLed Rs ks us' ++ own)) → Q .next { s with heap := h', toks := tk' }) :
    wpAny (model PySem.Challenge.rw_rs0157_01.prog w) (callerA.deeper (lawEnv w.params L a ccd)) (exec (blkStmt w.params) (lawEnv w.params L a ccd)) Q E s := by
  revert X'
  k_fill
  intro X'
  revert hE
  k_with_none
  w_top off
  generalize hbody : blkStmt w.params = body
  unfold lawEnv
  generalize hscope : lawScope w.params = sc
  conv at hbody => lhs; whnf
  conv at hscope => lhs; whnf
  subst hbody hscope
  intro hE
  dsimp only [kstB] at F'
  (try dsimp only); (try k_fold)
  have hsz : (Rs.map Value.ref).toArray.size = n := by rw [List.size_toArray, List.length_map, hR]
  rename Fr g L _ _ => FF
  with_unfolding_all refine' For_invVF FF ?k1 ?k2 ?_ (hE := hE)
  case k1 => exact rfl
  case k2 => exact rfl
  (repeat' ((fail_if_success (with_reducible show wpAny _ _ (exec (Stmt.For _ _ _ _ _) _) _ _ _)); (fail_if_success (with_reducible show wpAny _ _ (pyIter _) _ _ _)); (fail_if_success (with_reducible show wpAny _ _ (PySem.call (Value.ref 70) _) _ _ _)); (fail_if_success (with_reducible show wpAny _ _ (PySem.setItem (Value.ref (List.getD _ _ _)) _ _) _ _ _)); (fail_if_success (with_reducible show InvEndN _ _ _ _ _ _ _)); first | ((with_reducible show wpAny _ _ (subscriptTail (PySem.Expr.Name (Str.ofString "table") _) _ (Value.ref _) (Value.int _ _)) _ _ _); refine row_item (by assumption) (by k_mem) (by first | assumption | omega) (by first | assumption | omega) (by first | assumption | omega) ?_) | ((with_reducible show wpAny _ _ (subscriptTail _ _ (Value.ref (List.getD _ _ _)) (Value.int _ _)) _ _ _); refine cell_item (by assumption) (by intro p9 hp9; have hp8 : List.Mem p9 (rowsLed _ _ _) := hp9; repeat (first | exact List.mem_append_left _ hp8 | exact List.mem_append_right _ hp8 | refine List.Mem.tail _ ?_ | refine List.mem_append_left _ ?_)) (by assumption) (by assumption) (by assumption) (by first | assumption | omega) (by first | assumption | omega) (by first | assumption | omega) (by first | assumption | omega) ?_; intro _) | ((with_reducible show wpAny _ _ (binaryOp Operator.Mult (Value.int _ _) (Value.int _ _)) _ _ _); first | (refine mul_int ?_ (IntMulOk.of_left (bits_small (by first | assumption | omega) (by first | assumption | omega)))) | (refine mul_int ?_ (IntMulOk.of_right (bits_small (by first | assumption | omega) (by first | assumption | omega))))) | (k_unfold; (try dsimp only)) | walk1 | (dsimp only; walk1) | (leave1; try dsimp only)))
  rename Fr g L _ _ => FF
  rename News g L _ _ => NN
  rename IsRange _ _ _ _ _ _ _ _ => hRg
  obtain ⟨cnt, hcnt⟩ : ∃ cnt, cnt = n - (r.toNat + 1) := ⟨_, rfl⟩
  have hsize : Builtin.Range.rangeSize (r + 1) (n : Int) 1 = (cnt : Int) := by rw [rangeSize_nat]; omega
  have hsmall := small_range (a := r + 1) (b := (n : Int)) (by omega) (by omega) (by omega) (by omega)
  refine kst_range (σ := List (List Value)) (n := cnt) (fun us => (TB, listOf (Rs.map Value.ref).toArray kT) :: (rowsLed Rs ks us ++ own)) (fun _ => []) (fun us => us.length = n) [Str.ofString "j", Str.ofString "cross", Str.ofString "rest"] (fun pre us => TabOk us (stg old (newT old r.toNat last) (r.toNat + 1 + pre.length) 0) n) us0 rfl hRg hsmall hsize FF NN hTab.len (List.forall_mem_nil _) (hTab.congr fun x y _ _ => stg_start.symm) ?_ ?_
  · intro us pre i ti u h tk own1 hi hlt hoff1 _ hT1 F N
    have kMark := kstMark
    have hi0 : r + 1 ≤ i := by omega
    have hi1 : i < n := by omega
    have hi00 : 0 ≤ i := by omega
    have hiN : i.toNat < n := by omega
    have hrN : r.toNat < n := by omega
    have hRl : Rs.length ≤ 5 := by omega
    have hiR : i < Rs.length := by omega
    have hrR : r < Rs.length := by omega
    dsimp only [kstB] at F
    simp only [List.cons_append, List.nil_append] at N
    (try dsimp only); (try k_fold)
    change Fr g L _ _ at F
    change News g L _ _ at N
    refine wpAny_execs_cons ?_
    rename Fr g _ _ _ => FF
    with_unfolding_all refine' For_invVF FF ?k1 ?k2 ?_ (hE := hE)
    case k1 => exact rfl
    case k2 => exact rfl
    (repeat' ((fail_if_success (with_reducible show wpAny _ _ (exec (Stmt.For _ _ _ _ _) _) _ _ _)); (fail_if_success (with_reducible show wpAny _ _ (pyIter _) _ _ _)); (fail_if_success (with_reducible show wpAny _ _ (PySem.call (Value.ref 70) _) _ _ _)); (fail_if_success (with_reducible show wpAny _ _ (PySem.setItem (Value.ref (List.getD _ _ _)) _ _) _ _ _)); (fail_if_success (with_reducible show InvEndN _ _ _ _ _ _ _)); first | ((with_reducible show wpAny _ _ (subscriptTail (PySem.Expr.Name (Str.ofString "table") _) _ (Value.ref _) (Value.int _ _)) _ _ _); refine row_item (by assumption) (by k_mem) (by first | assumption | omega) (by first | assumption | omega) (by first | assumption | omega) ?_) | ((with_reducible show wpAny _ _ (subscriptTail _ _ (Value.ref (List.getD _ _ _)) (Value.int _ _)) _ _ _); refine cell_item (by assumption) (by intro p9 hp9; have hp8 : List.Mem p9 (rowsLed _ _ _) := hp9; repeat (first | exact List.mem_append_left _ hp8 | exact List.mem_append_right _ hp8 | refine List.Mem.tail _ ?_ | refine List.mem_append_left _ ?_)) (by assumption) (by assumption) (by assumption) (by first | assumption | omega) (by first | assumption | omega) (by first | assumption | omega) (by first | assumption | omega) ?_; intro _) | ((with_reducible show wpAny _ _ (binaryOp Operator.Mult (Value.int _ _) (Value.int _ _)) _ _ _); first | (refine mul_int ?_ (IntMulOk.of_left (bits_small (by first | assumption | omega) (by first | assumption | omega)))) | (refine mul_int ?_ (IntMulOk.of_right (bits_small (by first | assumption | omega) (by first | assumption | omega))))) | (k_unfold; (try dsimp only)) | walk1 | (dsimp only; walk1) | (leave1; try dsimp only)))
    rename Fr g _ _ _ => FF
    rename News g _ _ _ => NN
    rename IsRange _ _ _ _ _ _ _ _ => hRg2
    refine kst_range (σ := List (List Value)) (n := cnt) (fun us => (TB, listOf (Rs.map Value.ref).toArray kT) :: (rowsLed Rs ks us ++ own ++ own1)) (fun _ => []) (fun us => us.length = n) [Str.ofString "cross", Str.ofString "rest"] (fun pre us => TabOk us (stg old (newT old r.toNat last) i.toNat (r.toNat + 1 + pre.length)) n) us rfl hRg2 hsmall hsize FF NN hT1.len (List.forall_mem_nil _) (hT1.congr fun x y _ _ => by rw [show r.toNat + 1 + ([] : List Int).length = r.toNat + 1 from rfl, stg_row, show r.toNat + 1 + pre.length = i.toNat by omega]) ?_ ?_
    · intro us2 pre2 j tj u2 h2 tk2 own2 hj hlt2 hoff2 _ hT2 F N
      have hj0 : r + 1 ≤ j := by omega
      have hj1 : j < n := by omega
      have hj00 : 0 ≤ j := by omega
      have hjN : j.toNat < n := by omega
      have e2 : r.toNat + 1 + pre2.length = j.toNat := by omega
      rw [e2] at hT2
      obtain ⟨T, hTT⟩ : ∃ T, T = stg old (newT old r.toNat last) i.toNat j.toNat := ⟨_, rfl⟩
      have eij : T i.toNat j.toNat = old i.toNat j.toNat := by rw [hTT]; exact stg_old (by omega)
      have eir : T i.toNat r.toNat = old i.toNat r.toNat := by rw [hTT]; exact stg_low (by omega)
      have erj : T r.toNat j.toNat = old r.toNat j.toNat := by rw [hTT]; exact stg_low (by omega)
      have bij := hbd i.toNat j.toNat hiN hjN
      have bir := hbd i.toNat r.toNat hiN hrN
      have brj := hbd r.toNat j.toNat hrN hjN
      have brr := hbd r.toNat r.toNat hrN hrN
      rw [← htop] at brr
      rw [← eij] at bij
      rw [← eir] at bir
      rw [← erj] at brj
      rw [← hTT] at hT2
      dsimp only [kstB] at F
      simp only [List.cons_append, List.nil_append] at N
      (try dsimp only); (try k_fold)
      change Fr g L _ _ at F
      change News g L _ _ at N
      have hm1 := mul_bd bij.1 bij.2 brr.1 brr.2
      have hm2 := mul_bd bir.1 bir.2 brj.1 brj.2
      have hval := newT_val (last := last) (show r.toNat < i.toNat by omega) (show r.toNat < j.toNat by omega) htop eij eir erj
      (repeat' ((fail_if_success (with_reducible show wpAny _ _ (exec (Stmt.For _ _ _ _ _) _) _ _ _)); (fail_if_success (with_reducible show wpAny _ _ (pyIter _) _ _ _)); (fail_if_success (with_reducible show wpAny _ _ (PySem.call (Value.ref 70) _) _ _ _)); (fail_if_success (with_reducible show wpAny _ _ (PySem.setItem (Value.ref (List.getD _ _ _)) _ _) _ _ _)); (fail_if_success (with_reducible show InvEndN _ _ _ _ _ _ _)); first | ((with_reducible show wpAny _ _ (subscriptTail (PySem.Expr.Name (Str.ofString "table") _) _ (Value.ref _) (Value.int _ _)) _ _ _); refine row_item (by assumption) (by k_mem) (by first | assumption | omega) (by first | assumption | omega) (by first | assumption | omega) ?_) | ((with_reducible show wpAny _ _ (subscriptTail _ _ (Value.ref (List.getD _ _ _)) (Value.int _ _)) _ _ _); refine cell_item (by assumption) (by intro p9 hp9; have hp8 : List.Mem p9 (rowsLed _ _ _) := hp9; repeat (first | exact List.mem_append_left _ hp8 | exact List.mem_append_right _ hp8 | refine List.Mem.tail _ ?_ | refine List.mem_append_left _ ?_)) (by assumption) (by assumption) (by assumption) (by first | assumption | omega) (by first | assumption | omega) (by first | assumption | omega) (by first | assumption | omega) ?_; intro _) | ((with_reducible show wpAny _ _ (binaryOp Operator.Mult (Value.int _ _) (Value.int _ _)) _ _ _); first | (refine mul_int ?_ (IntMulOk.of_left (bits_small (by first | assumption | omega) (by first | assumption | omega)))) | (refine mul_int ?_ (IntMulOk.of_right (bits_small (by first | assumption | omega) (by first | assumption | omega))))) | (k_unfold; (try dsimp only)) | walk1 | (dsimp only; walk1) | (leave1; try dsimp only)))
      · rename Fr g L _ _ => FF
        rename News g L _ _ => NN
        rename 0 < r => hrp
        have hz := hex hrp i.toNat j.toNat (by omega) (by omega) (by omega) (by omega)
        rw [← eij, ← eir, ← erj] at hz
        rw [if_neg (by omega)] at hval
        obtain ⟨cr, hcr⟩ : ∃ cr, cr = T i.toNat j.toNat * top - T i.toNat r.toNat * T r.toNat j.toNat := ⟨_, rfl⟩
        rw [← hcr] at hz hval
        rw [← hcr]
        refine PureE.callF (idm3U_ok _ _ _ _ t hft.on) hft B' FF X' T' NN rfl (by show _ < _; decide) (by show _ < _; decide) (fun q hq => by have hp := ht q hq; repeat (first | exact hp | exact List.mem_append_right _ hp | exact List.mem_append_left _ hp | refine List.Mem.tail _ ?_ | refine List.mem_append_left _ ?_)) ⟨by omega, by omega, hl0 hrp, hl1, hl2⟩ ?_
        rintro v h5 tk5 st5 ⟨Q1, o, rfl, hQ0, hQ1, tq1, tq2, rfl⟩ F5 N5
        rw [hz, ← hval] at hQ1
        have N6 := News.addD FF N5 hQ0 hQ1
        clear N5 st5 hQ0 hQ1 NN FF
        (repeat' ((fail_if_success (with_reducible show wpAny _ _ (exec (Stmt.For _ _ _ _ _) _) _ _ _)); (fail_if_success (with_reducible show wpAny _ _ (pyIter _) _ _ _)); (fail_if_success (with_reducible show wpAny _ _ (PySem.call (Value.ref 70) _) _ _ _)); (fail_if_success (with_reducible show wpAny _ _ (PySem.setItem (Value.ref (List.getD _ _ _)) _ _) _ _ _)); (fail_if_success (with_reducible show InvEndN _ _ _ _ _ _ _)); first | ((with_reducible show wpAny _ _ (subscriptTail (PySem.Expr.Name (Str.ofString "table") _) _ (Value.ref _) (Value.int _ _)) _ _ _); refine row_item (by assumption) (by k_mem) (by first | assumption | omega) (by first | assumption | omega) (by first | assumption | omega) ?_) | ((with_reducible show wpAny _ _ (subscriptTail _ _ (Value.ref (List.getD _ _ _)) (Value.int _ _)) _ _ _); refine cell_item (by assumption) (by intro p9 hp9; have hp8 : List.Mem p9 (rowsLed _ _ _) := hp9; repeat (first | exact List.mem_append_left _ hp8 | exact List.mem_append_right _ hp8 | refine List.Mem.tail _ ?_ | refine List.mem_append_left _ ?_)) (by assumption) (by assumption) (by assumption) (by first | assumption | omega) (by first | assumption | omega) (by first | assumption | omega) (by first | assumption | omega) ?_; intro _) | ((with_reducible show wpAny _ _ (binaryOp Operator.Mult (Value.int _ _) (Value.int _ _)) _ _ _); first | (refine mul_int ?_ (IntMulOk.of_left (bits_small (by first | assumption | omega) (by first | assumption | omega)))) | (refine mul_int ?_ (IntMulOk.of_right (bits_small (by first | assumption | omega) (by first | assumption | omega))))) | (k_unfold; (try dsimp only)) | walk1 | (dsimp only; walk1) | (leave1; try dsimp only)))
        rename Fr g L _ _ => FF
        rename News g L _ _ => NN
        refine cell_set (keep := (TB, listOf (Rs.map Value.ref).toArray kT) :: (own ++ own1 ++ own2)) FF NN (fun p hp => (by repeat (first | exact hp | exact List.mem_append_right _ hp | exact List.mem_append_left _ hp | refine List.Mem.tail _ ?_ | refine List.mem_append_left _ ?_))) hT2 hR hk hnd hn hiN hj00 hj1 ?_ ?_
        · intro p hp
          rcases List.mem_cons.mp hp with rfl | hp
          · exact ⟨by k_mem, hTB⟩
          · rcases List.mem_append.mp hp with hp | hp
            · rcases List.mem_append.mp hp with hp | hp
              · exact ⟨(by repeat (first | exact hp | exact List.mem_append_right _ hp | exact List.mem_append_left _ hp | refine List.Mem.tail _ ?_ | refine List.mem_append_left _ ?_)), hoff p hp⟩
              · exact ⟨(by repeat (first | exact hp | exact List.mem_append_right _ hp | exact List.mem_append_left _ hp | refine List.Mem.tail _ ?_ | refine List.mem_append_left _ ?_)), own_off hoff1 (by omega) (by rw [hTab.len, hR]) p hp⟩
            · exact ⟨(by repeat (first | exact hp | exact List.mem_append_right _ hp | exact List.mem_append_left _ hp | refine List.Mem.tail _ ?_ | refine List.mem_append_left _ ?_)), own_off2 hoff2 (by omega) (by rw [hT1.len, hR]) p hp⟩
        · intro us3 h3 hT3 F3 N3
          clear NN
          (repeat' ((fail_if_success (with_reducible show wpAny _ _ (exec (Stmt.For _ _ _ _ _) _) _ _ _)); (fail_if_success (with_reducible show wpAny _ _ (pyIter _) _ _ _)); (fail_if_success (with_reducible show wpAny _ _ (PySem.call (Value.ref 70) _) _ _ _)); (fail_if_success (with_reducible show wpAny _ _ (PySem.setItem (Value.ref (List.getD _ _ _)) _ _) _ _ _)); (fail_if_success (with_reducible show InvEndN _ _ _ _ _ _ _)); first | ((with_reducible show wpAny _ _ (subscriptTail (PySem.Expr.Name (Str.ofString "table") _) _ (Value.ref _) (Value.int _ _)) _ _ _); refine row_item (by assumption) (by k_mem) (by first | assumption | omega) (by first | assumption | omega) (by first | assumption | omega) ?_) | ((with_reducible show wpAny _ _ (subscriptTail _ _ (Value.ref (List.getD _ _ _)) (Value.int _ _)) _ _ _); refine cell_item (by assumption) (by intro p9 hp9; have hp8 : List.Mem p9 (rowsLed _ _ _) := hp9; repeat (first | exact List.mem_append_left _ hp8 | exact List.mem_append_right _ hp8 | refine List.Mem.tail _ ?_ | refine List.mem_append_left _ ?_)) (by assumption) (by assumption) (by assumption) (by first | assumption | omega) (by first | assumption | omega) (by first | assumption | omega) (by first | assumption | omega) ?_; intro _) | ((with_reducible show wpAny _ _ (binaryOp Operator.Mult (Value.int _ _) (Value.int _ _)) _ _ _); first | (refine mul_int ?_ (IntMulOk.of_left (bits_small (by first | assumption | omega) (by first | assumption | omega)))) | (refine mul_int ?_ (IntMulOk.of_right (bits_small (by first | assumption | omega) (by first | assumption | omega))))) | (k_unfold; (try dsimp only)) | walk1 | (dsimp only; walk1) | (leave1; try dsimp only)))
          refine kst_end us3 F3 N3 ?hn ?ho ?ha hT3.len (List.forall_mem_nil _) ?hr ?hp
          case hn =>
            intro p hp
            rcases List.mem_cons.mp hp with rfl | hp
            · exact List.Mem.head _
            · rcases List.mem_append.mp hp with hp | hp
              · rcases List.mem_append.mp hp with hp | hp
                · exact List.mem_append_right _ hp
                · exact List.mem_append_left _ (List.Mem.tail _ (List.mem_append_left _ (List.mem_append_left _ hp)))
              · exact List.mem_append_left _ (List.Mem.tail _ (List.mem_append_left _ (List.mem_append_right _ hp)))
          case ho => exact fun p hp => List.mem_append_left _ (List.Mem.tail _ (List.mem_append_right _ hp))
          case ha => rw [List.append_assoc, List.append_assoc]; exact led_fst (by omega) (by rw [hT3.len, hR]) (by rw [hT1.len, hR])
          case hr =>
              intro z h1 _ h3
              have h4 := h3
              simp only [List.contains_cons, List.contains_nil, Bool.or_false, Bool.or_eq_false_iff, beq_eq_false_iff_ne, ne_eq] at h3
              simp only [h1, h3, h4, if_false, Bool.false_eq_true]
          case hp =>
            refine hT3.congr fun x y _ _ => ?_
            rw [show r.toNat + 1 + (pre2 ++ [j]).length = j.toNat + 1 by rw [List.length_append, List.length_singleton]; omega]
            have hs := set_stg (old := old) (new := newT old r.toNat last) (i := i.toNat) (j := j.toNat) (v := newT old r.toNat last i.toNat j.toNat) rfl x y
            rw [← hTT] at hs
            exact hs
      · rename Fr g L _ _ => FF
        rename News g L _ _ => NN
        rw [if_pos (by omega)] at hval
        refine cell_set (keep := (TB, listOf (Rs.map Value.ref).toArray kT) :: (own ++ own1 ++ own2)) FF NN (fun p hp => (by repeat (first | exact hp | exact List.mem_append_right _ hp | exact List.mem_append_left _ hp | refine List.Mem.tail _ ?_ | refine List.mem_append_left _ ?_))) hT2 hR hk hnd hn hiN hj00 hj1 ?_ ?_
        · intro p hp
          rcases List.mem_cons.mp hp with rfl | hp
          · exact ⟨by k_mem, hTB⟩
          · rcases List.mem_append.mp hp with hp | hp
            · rcases List.mem_append.mp hp with hp | hp
              · exact ⟨(by repeat (first | exact hp | exact List.mem_append_right _ hp | exact List.mem_append_left _ hp | refine List.Mem.tail _ ?_ | refine List.mem_append_left _ ?_)), hoff p hp⟩
              · exact ⟨(by repeat (first | exact hp | exact List.mem_append_right _ hp | exact List.mem_append_left _ hp | refine List.Mem.tail _ ?_ | refine List.mem_append_left _ ?_)), own_off hoff1 (by omega) (by rw [hTab.len, hR]) p hp⟩
            · exact ⟨(by repeat (first | exact hp | exact List.mem_append_right _ hp | exact List.mem_append_left _ hp | refine List.Mem.tail _ ?_ | refine List.mem_append_left _ ?_)), own_off2 hoff2 (by omega) (by rw [hT1.len, hR]) p hp⟩
        · intro us3 h3 hT3 F3 N3
          clear NN
          (repeat' ((fail_if_success (with_reducible show wpAny _ _ (exec (Stmt.For _ _ _ _ _) _) _ _ _)); (fail_if_success (with_reducible show wpAny _ _ (pyIter _) _ _ _)); (fail_if_success (with_reducible show wpAny _ _ (PySem.call (Value.ref 70) _) _ _ _)); (fail_if_success (with_reducible show wpAny _ _ (PySem.setItem (Value.ref (List.getD _ _ _)) _ _) _ _ _)); (fail_if_success (with_reducible show InvEndN _ _ _ _ _ _ _)); first | ((with_reducible show wpAny _ _ (subscriptTail (PySem.Expr.Name (Str.ofString "table") _) _ (Value.ref _) (Value.int _ _)) _ _ _); refine row_item (by assumption) (by k_mem) (by first | assumption | omega) (by first | assumption | omega) (by first | assumption | omega) ?_) | ((with_reducible show wpAny _ _ (subscriptTail _ _ (Value.ref (List.getD _ _ _)) (Value.int _ _)) _ _ _); refine cell_item (by assumption) (by intro p9 hp9; have hp8 : List.Mem p9 (rowsLed _ _ _) := hp9; repeat (first | exact List.mem_append_left _ hp8 | exact List.mem_append_right _ hp8 | refine List.Mem.tail _ ?_ | refine List.mem_append_left _ ?_)) (by assumption) (by assumption) (by assumption) (by first | assumption | omega) (by first | assumption | omega) (by first | assumption | omega) (by first | assumption | omega) ?_; intro _) | ((with_reducible show wpAny _ _ (binaryOp Operator.Mult (Value.int _ _) (Value.int _ _)) _ _ _); first | (refine mul_int ?_ (IntMulOk.of_left (bits_small (by first | assumption | omega) (by first | assumption | omega)))) | (refine mul_int ?_ (IntMulOk.of_right (bits_small (by first | assumption | omega) (by first | assumption | omega))))) | (k_unfold; (try dsimp only)) | walk1 | (dsimp only; walk1) | (leave1; try dsimp only)))
          refine kst_end us3 F3 N3 ?hn ?ho ?ha hT3.len (List.forall_mem_nil _) ?hr ?hp
          case hn =>
            intro p hp
            rcases List.mem_cons.mp hp with rfl | hp
            · exact List.Mem.head _
            · rcases List.mem_append.mp hp with hp | hp
              · rcases List.mem_append.mp hp with hp | hp
                · exact List.mem_append_right _ hp
                · exact List.mem_append_left _ (List.Mem.tail _ (List.mem_append_left _ (List.mem_append_left _ hp)))
              · exact List.mem_append_left _ (List.Mem.tail _ (List.mem_append_left _ (List.mem_append_right _ hp)))
          case ho => exact fun p hp => List.mem_append_left _ (List.Mem.tail _ (List.mem_append_right _ hp))
          case ha => rw [List.append_assoc, List.append_assoc]; exact led_fst (by omega) (by rw [hT3.len, hR]) (by rw [hT1.len, hR])
          case hr =>
              intro z h1 _ h3
              have h4 := h3
              simp only [List.contains_cons, List.contains_nil, Bool.or_false, Bool.or_eq_false_iff, beq_eq_false_iff_ne, ne_eq] at h3
              simp only [h1, h3, h4, if_false, Bool.false_eq_true]
          case hp =>
            refine hT3.congr fun x y _ _ => ?_
            rw [show r.toNat + 1 + (pre2 ++ [j]).length = j.toNat + 1 by rw [List.length_append, List.length_singleton]; omega]
            have hs := set_stg (old := old) (new := newT old r.toNat last) (i := i.toNat) (j := j.toNat) (hval.symm) x y
            rw [← hTT] at hs
            exact hs
    · intro us3 u3 h3 tk3 _ hT3 F3 N3
      (repeat' ((fail_if_success (with_reducible show wpAny _ _ (exec (Stmt.For _ _ _ _ _) _) _ _ _)); (fail_if_success (with_reducible show wpAny _ _ (pyIter _) _ _ _)); (fail_if_success (with_reducible show wpAny _ _ (PySem.call (Value.ref 70) _) _ _ _)); (fail_if_success (with_reducible show wpAny _ _ (PySem.setItem (Value.ref (List.getD _ _ _)) _ _) _ _ _)); (fail_if_success (with_reducible show InvEndN _ _ _ _ _ _ _)); first | ((with_reducible show wpAny _ _ (subscriptTail (PySem.Expr.Name (Str.ofString "table") _) _ (Value.ref _) (Value.int _ _)) _ _ _); refine row_item (by assumption) (by k_mem) (by first | assumption | omega) (by first | assumption | omega) (by first | assumption | omega) ?_) | ((with_reducible show wpAny _ _ (subscriptTail _ _ (Value.ref (List.getD _ _ _)) (Value.int _ _)) _ _ _); refine cell_item (by assumption) (by intro p9 hp9; have hp8 : List.Mem p9 (rowsLed _ _ _) := hp9; repeat (first | exact List.mem_append_left _ hp8 | exact List.mem_append_right _ hp8 | refine List.Mem.tail _ ?_ | refine List.mem_append_left _ ?_)) (by assumption) (by assumption) (by assumption) (by first | assumption | omega) (by first | assumption | omega) (by first | assumption | omega) (by first | assumption | omega) ?_; intro _) | ((with_reducible show wpAny _ _ (binaryOp Operator.Mult (Value.int _ _) (Value.int _ _)) _ _ _); first | (refine mul_int ?_ (IntMulOk.of_left (bits_small (by first | assumption | omega) (by first | assumption | omega)))) | (refine mul_int ?_ (IntMulOk.of_right (bits_small (by first | assumption | omega) (by first | assumption | omega))))) | (k_unfold; (try dsimp only)) | walk1 | (dsimp only; walk1) | (leave1; try dsimp only)))
      dsimp only [kstB] at F3
      refine kst_end us3 F3 N3 ?hn ?ho ?ha hT3.len (List.forall_mem_nil _) ?hr ?hp
      case hn =>
        intro p hp
        exact (by repeat (first | exact hp | exact List.mem_append_right _ hp | exact List.mem_append_left _ hp | refine List.Mem.tail _ ?_ | refine List.mem_append_left _ ?_))
      case ho =>
        intro p hp
        exact (by repeat (first | exact hp | exact List.mem_append_right _ hp | exact List.mem_append_left _ hp | refine List.Mem.tail _ ?_ | refine List.mem_append_left _ ?_))
      case ha => exact led_fst (by omega) (by rw [hT3.len, hR]) (by rw [hTab.len, hR])
      case hr =>
              intro z h1 _ h3
              have h4 := h3
              simp only [List.contains_cons, List.contains_nil, Bool.or_false, Bool.or_eq_false_iff, beq_eq_false_iff_ne, ne_eq] at h3
              have h5 : [Str.ofString "cross", Str.ofString "rest"].contains z = false := by simp [h3.2.1, h3.2.2]
              simp only [h1, h3, h4, h5, if_false, Bool.false_eq_true]
      case hp =>
        rw [rangeKs_length] at hT3
        refine hT3.congr fun x y _ hy => ?_
        rw [show r.toNat + 1 + cnt = n by omega, stg_next hy, show r.toNat + 1 + (pre ++ [i]).length = i.toNat + 1 by rw [List.length_append, List.length_singleton]; omega]
  · intro us3 u3 h3 tk3 _ hT3 F3 N3
    rw [rangeKs_length] at hT3
    refine hret us3 _ _ u3 (hT3.congr fun x y hx _ => ?_) F3 N3
    rw [show r.toNat + 1 + cnt = n by omega, stg_all hx]
end Mine

-- P17
open PySem PySem.W PyProof.Rows PyProof
set_option Elab.async false
set_option maxRecDepth 100000
set_option linter.unusedVariables false
namespace Mine
/-- the table of distances along the tree -/
noncomputable def dueT (tr : List (Int × Int)) (x y : Nat) : Int := if y < x then betF tr (x + y) (x : Int) (y : Int) 0 else if x < y then betF tr (y + x) (y : Int) (x : Int) 0 else 0
theorem dueT_symm (tr : List (Int × Int)) (x y : Nat) : dueT tr x y = dueT tr y x := by
  unfold dueT
  rcases Nat.lt_trichotomy x y with h | h | h
  · rw [if_neg (by omega), if_pos h, if_pos h]
  · subst h; rfl
  · rw [if_pos h, if_neg (by omega), if_pos h]
/-- the pairs before (i, j) are told -/
noncomputable def pstg (D : Nat → Nat → Int) (i j : Nat) : Nat → Nat → Int := fun x y => if max x y < i ∨ (max x y = i ∧ min x y < j) then D x y else 0
theorem pstg_zero (D : Nat → Nat → Int) (x y : Nat) : pstg D 0 0 x y = 0 := by unfold pstg; rw [if_neg (by omega)]
theorem pstg_next {D : Nat → Nat → Int} (h0 : ∀ x, D x x = 0) (i x y : Nat) : pstg D i i x y = pstg D (i + 1) 0 x y := by
  unfold pstg
  by_cases h1 : max x y < i ∨ (max x y = i ∧ min x y < i)
  · rw [if_pos h1, if_pos (by omega)]
  · rw [if_neg h1]
    by_cases h2 : max x y < i + 1 ∨ (max x y = i + 1 ∧ min x y < 0)
    · rw [if_pos h2]
      have e : x = y := by omega
      subst e
      exact (h0 x).symm
    · rw [if_neg h2]
theorem pstg_all {D : Nat → Nat → Int} {n x y : Nat} (hx : x < n) (hy : y < n) : pstg D n 0 x y = D x y := by unfold pstg; rw [if_pos (by omega)]
theorem pstg_set {D : Nat → Nat → Int} {i j : Nat} {v : Int} (hs : D i j = D j i) (hv : v = D i j) (hji : j < i) (x y : Nat) : setT (setT (pstg D i j) i j v) j i v x y = pstg D i (j + 1) x y := by
  unfold setT pstg
  by_cases h1 : x = j ∧ y = i
  · rw [if_pos h1, if_pos (by omega), h1.1, h1.2, ← hs, hv]
  · rw [if_neg h1]
    by_cases h2 : x = i ∧ y = j
    · rw [if_pos h2, if_pos (by omega), h2.1, h2.2, hv]
    · rw [if_neg h2]
      by_cases h3 : max x y < i ∨ (max x y = i ∧ min x y < j)
      · rw [if_pos h3, if_pos (by omega)]
      · rw [if_neg h3, if_neg (by omega)]
theorem name_item {prog : Program} {w : World} {A : Around} {E : Value → Shared → Prop} {s : Shared} {g : Heap} {L : Addr} {news : List (Addr × Obj)} {value slice : PySem.Expr} {NM : Addr} {wv : List Value} {kN n : Nat} {word : Nat → Str} {k : Int} {u : Tok} {Q : Value → Shared → Prop}
    (N : News g L s.heap news) (hm : (NM, listOf wv.toArray kN) ∈ news) (hW : ∀ i, i < n → ∃ t, wv[i]? = some (.str (word i) t)) (h0 : 0 ≤ k) (h1 : k < n) (hn : n ≤ 5) (h : ∀ t, Q (.str (word k.toNat) t) s)
    (hs : subscripted slice false (.ref NM) (.int k u) = operate [.ref NM, .int k u] (getItem (.ref NM) (.int k u)) := by with_unfolding_all rfl) :
    wpAny (model prog w) A (subscriptTail value slice (.ref NM) (.int k u)) Q E s := by
  have hL : s.heap.IsList NM wv.toArray := ⟨_, (N _ hm).1, rfl, _, rfl⟩
  obtain ⟨t, ht⟩ := hW k.toNat (by omega)
  exact tail_any hL.typeIs slot_list_getitem.lookup (wpAny_getItem_list hL h0 (by omega) (by simpa using ht) (h t)) hs
end Mine

-- FP1
open PySem PySem.W PyProof.Rows PyProof
set_option Elab.async false
set_option maxRecDepth 100000
set_option maxHeartbeats 8000000
set_option pp.deepTerms false
set_option pp.deepTerms.threshold 6
set_option rowWalk.seconds 0
namespace Mine
theorem own_off3 {own1 X : List (Addr × Obj)} {x y z : Addr × Obj} {Rs : List Addr} {ks : List Nat} {us : List (List Value)} (h : OwnOff own1 ((x :: y :: z :: (rowsLed Rs ks us ++ X)).map (·.1))) (h1 : ks.length = Rs.length) (h2 : us.length = Rs.length) : ∀ p ∈ own1, p.1 ∉ Rs := fun p hp hm => by
  refine h p hp p.1 ?_ rfl
  rw [List.map_cons, List.map_cons, List.map_cons, List.map_append, rowsLed_fst h1 h2]
  exact .tail _ (.tail _ (.tail _ (List.mem_append_left _ hm)))

theorem pair_ok {w : World} {p : Program} {loose : List Str} {mean : ExcName → Option Value} {mg mb : Str → Option Value} {a : Addr} {ccd : Value} {base g : Heap} {L : Addr} {s : Shared} {Q : Flow → Shared → Prop} {E : Value → Shared → Prop} {m₀ : Str → Option Value} {TB TR SC NM : Addr} {kT kN : Nat} {Rs : List Addr} {ks : List Nat} {us0 : List (List Value)} {n : Nat} {own : List (Addr × Obj)} {tr : List (Int × Int)} {wv sus : List Value} {sns : List Int} {word : Nat → Str} {onm : Obj}
    (B' : Below callerA base [] g) (F' : Fr g L s.heap (kstB m₀ [(Str.ofString "table", .ref TB), (Str.ofString "tree", .ref TR), (Str.ofString "script", .ref SC)])) (X' : (hd1.heap_1 w.params).In g) (T' : Top p loose mean mg mb g)
    (N' : News g L s.heap ((TB, listOf (Rs.map Value.ref).toArray kT) :: (L + 1, onm) :: (NM, listOf wv.toArray kN) :: (rowsLed Rs ks us0 ++ own))) (hnm : onm.data = .cell (some (.ref NM)))
    (hTab : TabOk us0 (fun _ _ => 0) n) (hR : Rs.length = n) (hk : ks.length = n) (hn : n ≤ 5) (hnd : Rs.Nodup) (hoff : ∀ p ∈ (TB, listOf (Rs.map Value.ref).toArray kT) :: (L + 1, onm) :: (NM, listOf wv.toArray kN) :: own, p.1 ∉ Rs)
    (hwn : wv.length = n) (hW : ∀ i, i < n → ∃ t, wv[i]? = some (.str (word i) t)) (hwl : ∀ i, i < n → (word i).length ≤ 40)
    (hS : g.IsList SC sus.toArray) (hSI : IntsAre sus sns) (hS63 : sns.length ≤ 63)
    (htr : GoodTree tr) (htl : tr.length + 1 = n) (htree : ∀ h : Heap, (∀ p ∈ own, h.get? p.1 = some p.2) → TreeIn h TR tr)
    (hlev : ∀ i j, j < i → i < n → ∀ b, dueT tr i j - 1 ≤ b → levF (tl (word i)) (tl (word j)) b = dueT tr i j)
    (hE : PassesOwn (model PySem.Challenge.rw_rs0157_01.prog w) (callerA.deeper (lawEnv w.params L a ccd)) (lawEnv w.params L a ccd) E)
    (hret : ∀ us' h' tk' (u : Str → Option Value), TabOk us' (dueT tr) n → Fr g L h' (fun y => if y = Str.ofString "i" then u y else kstB (fun z => if [Str.ofString "j", Str.ofString "due", Str.ofString "bound"].contains z then u z else kstB m₀ [(Str.ofString "table", .ref TB), (Str.ofString "tree", .ref TR), (Str.ofString "script", .ref SC)] z) [] y) →
      News g L h' ((TB, listOf (Rs.map Value.ref).toArray kT) :: (L + 1, onm) :: (NM, listOf wv.toArray kN) :: (rowsLed Rs ks us' ++ own)) → Q .next { s with heap := h', toks := tk' }) :
    wpAny (model PySem.Challenge.rw_rs0157_01.prog w) (callerA.deeper (lawEnv w.params L a ccd)) (exec (pairStmt w.params) (lawEnv w.params L a ccd)) Q E s := by
  revert X'
  k_fill
  intro X'
  revert hE
  k_with_none
  w_top off
  generalize hbody : pairStmt w.params = body
  unfold lawEnv
  generalize hscope : lawScope w.params = sc
  conv at hbody => lhs; whnf
  conv at hscope => lhs; whnf
  subst hbody hscope
  intro hE
  dsimp only [kstB] at F'
  (try dsimp only); (try k_fold)
  have hsz : wv.toArray.size = n := by rw [List.size_toArray, hwn]
  have hsl := hSI.length
  rename Fr g L _ _ => FF
  with_unfolding_all refine' For_invVF FF ?k1 ?k2 ?_ (hE := hE)
  case k1 => exact rfl
  case k2 => exact rfl
  (repeat' ((fail_if_success (with_reducible show wpAny _ _ (exec (Stmt.For _ _ _ _ _) _) _ _ _)); (fail_if_success (with_reducible show wpAny _ _ (pyIter _) _ _ _)); (fail_if_success (with_reducible show wpAny _ _ (PySem.call (Value.ref 163) _) _ _ _)); (fail_if_success (with_reducible show wpAny _ _ (PySem.call (Value.ref 28) _) _ _ _)); (fail_if_success (with_reducible show wpAny _ _ (PySem.setItem _ _ _) _ _ _)); (fail_if_success (with_reducible show InvEndN _ _ _ _ _ _ _)); first | ((with_reducible show wpAny _ _ (subscriptTail (PySem.Expr.Name (Str.ofString "table") _) _ (Value.ref _) (Value.int _ _)) _ _ _); refine row_item (by assumption) (by k_mem) (by first | assumption | omega) (by first | assumption | omega) (by first | assumption | omega) ?_) | ((with_reducible show wpAny _ _ (subscriptTail (PySem.Expr.Name (Str.ofString "names") _) _ (Value.ref _) (Value.int _ _)) _ _ _); refine name_item (by assumption) (by k_mem) (by assumption) (by first | assumption | omega) (by first | assumption | omega) (by first | assumption | omega) ?_; intro _) | (k_unfold; (try dsimp only)) | walk1 | (dsimp only; walk1) | (leave1; try dsimp only)))
  rename Fr g L _ _ => FF
  rename News g L _ _ => NN
  rename IsRange _ _ _ _ _ _ _ _ => hRg
  refine kst_range (σ := List (List Value)) (n := n) (fun us => (TB, listOf (Rs.map Value.ref).toArray kT) :: (L + 1, onm) :: (NM, listOf wv.toArray kN) :: (rowsLed Rs ks us ++ own)) (fun _ => []) (fun us => us.length = n) [Str.ofString "j", Str.ofString "due", Str.ofString "bound"] (fun pre us => TabOk us (pstg (dueT tr) pre.length 0) n) us0 rfl hRg (small_range (by omega) (by omega) (by omega) (by omega)) (by rw [rangeSize_nat]; omega) FF NN hTab.len (List.forall_mem_nil _) (hTab.congr fun x y _ _ => (pstg_zero _ _ _).symm) ?_ ?_
  · have hus0 := hTab.len
    clear FF NN hRg hTab
    intro us pre i ti u h tk own1 hi hlt hoff1 _ hT1 F N
    have kMark := kstMark
    have hi0 : i = pre.length := by omega
    have hi1 : i < n := by omega
    dsimp only [kstB] at F
    simp only [List.cons_append, List.nil_append] at N
    (try dsimp only); (try k_fold)
    change Fr g L _ _ at F
    change News g L _ _ at N
    refine wpAny_execs_cons ?_
    rename Fr g _ _ _ => FF
    with_unfolding_all refine' For_invVF FF ?k1 ?k2 ?_ (hE := hE)
    case k1 => exact rfl
    case k2 => exact rfl
    (repeat' ((fail_if_success (with_reducible show wpAny _ _ (exec (Stmt.For _ _ _ _ _) _) _ _ _)); (fail_if_success (with_reducible show wpAny _ _ (pyIter _) _ _ _)); (fail_if_success (with_reducible show wpAny _ _ (PySem.call (Value.ref 163) _) _ _ _)); (fail_if_success (with_reducible show wpAny _ _ (PySem.call (Value.ref 28) _) _ _ _)); (fail_if_success (with_reducible show wpAny _ _ (PySem.setItem _ _ _) _ _ _)); (fail_if_success (with_reducible show InvEndN _ _ _ _ _ _ _)); first | ((with_reducible show wpAny _ _ (subscriptTail (PySem.Expr.Name (Str.ofString "table") _) _ (Value.ref _) (Value.int _ _)) _ _ _); refine row_item (by assumption) (by k_mem) (by first | assumption | omega) (by first | assumption | omega) (by first | assumption | omega) ?_) | ((with_reducible show wpAny _ _ (subscriptTail (PySem.Expr.Name (Str.ofString "names") _) _ (Value.ref _) (Value.int _ _)) _ _ _); refine name_item (by assumption) (by k_mem) (by assumption) (by first | assumption | omega) (by first | assumption | omega) (by first | assumption | omega) ?_; intro _) | (k_unfold; (try dsimp only)) | walk1 | (dsimp only; walk1) | (leave1; try dsimp only)))
    rename Fr g _ _ _ => FF
    rename News g _ _ _ => NN
    rename IsRange _ _ _ _ _ _ _ _ => hRg2
    refine kst_range (σ := List (List Value)) (n := pre.length) (fun us => (TB, listOf (Rs.map Value.ref).toArray kT) :: (L + 1, onm) :: (NM, listOf wv.toArray kN) :: (rowsLed Rs ks us ++ own ++ own1)) (fun _ => []) (fun us => us.length = n) [Str.ofString "due", Str.ofString "bound"] (fun pre2 us => TabOk us (pstg (dueT tr) pre.length pre2.length) n) us rfl hRg2 (small_range (by omega) (by omega) (by omega) (by omega)) (by rw [rangeSize_nat]; omega) FF NN hT1.len (List.forall_mem_nil _) hT1 ?_ ?_
    · have hus1 := hT1.len
      clear FF NN hRg2 hT1
      intro us2 pre2 j tj u2 h2 tk2 own2 hj hlt2 hoff2 _ hT2 F N
      have hj0 : j = pre2.length := by omega
      have hj1 : j < i := by omega
      dsimp only [kstB] at F
      simp only [List.cons_append, List.nil_append] at N
      (try dsimp only); (try k_fold)
      change Fr g L _ _ at F
      change News g L _ _ at N
      (repeat' ((fail_if_success (with_reducible show wpAny _ _ (exec (Stmt.For _ _ _ _ _) _) _ _ _)); (fail_if_success (with_reducible show wpAny _ _ (pyIter _) _ _ _)); (fail_if_success (with_reducible show wpAny _ _ (PySem.call (Value.ref 163) _) _ _ _)); (fail_if_success (with_reducible show wpAny _ _ (PySem.call (Value.ref 28) _) _ _ _)); (fail_if_success (with_reducible show wpAny _ _ (PySem.setItem _ _ _) _ _ _)); (fail_if_success (with_reducible show InvEndN _ _ _ _ _ _ _)); first | ((with_reducible show wpAny _ _ (subscriptTail (PySem.Expr.Name (Str.ofString "table") _) _ (Value.ref _) (Value.int _ _)) _ _ _); refine row_item (by assumption) (by k_mem) (by first | assumption | omega) (by first | assumption | omega) (by first | assumption | omega) ?_) | ((with_reducible show wpAny _ _ (subscriptTail (PySem.Expr.Name (Str.ofString "names") _) _ (Value.ref _) (Value.int _ _)) _ _ _); refine name_item (by assumption) (by k_mem) (by assumption) (by first | assumption | omega) (by first | assumption | omega) (by first | assumption | omega) ?_; intro _) | (k_unfold; (try dsimp only)) | walk1 | (dsimp only; walk1) | (leave1; try dsimp only)))
      rename Fr g _ _ _ => FF
      rename News g _ _ _ => NN
      refine Pure.call (between_ok TR tr i j _ _) B' FF X' T' NN rfl (by show _ < _; decide) (by show _ < _; decide) ⟨htree _ (fun p hp => (NN p (by repeat (first | exact hp | exact List.mem_append_right _ hp | exact List.mem_append_left _ hp | refine List.Mem.tail _ ?_ | refine List.mem_append_left _ ?_))).1), htr, by omega, by omega, by omega, by omega, by omega⟩ ?_
      rintro v h4 tk4 st4 ⟨t4, rfl⟩ F4 N4
      clear st4 FF NN
      obtain ⟨due, hdue⟩ : ∃ due, due = betF tr (i + j).toNat i j 0 := ⟨_, rfl⟩
      rw [← hdue]
      have hdd : due = dueT tr i.toNat j.toNat := by
        unfold dueT
        rw [if_pos (by omega), hdue, Int.toNat_of_nonneg (by omega), Int.toNat_of_nonneg (by omega)]
        congr 1
        omega
      clear hdue
      (repeat' ((fail_if_success (with_reducible show wpAny _ _ (exec (Stmt.For _ _ _ _ _) _) _ _ _)); (fail_if_success (with_reducible show wpAny _ _ (pyIter _) _ _ _)); (fail_if_success (with_reducible show wpAny _ _ (PySem.call (Value.ref 163) _) _ _ _)); (fail_if_success (with_reducible show wpAny _ _ (PySem.call (Value.ref 28) _) _ _ _)); (fail_if_success (with_reducible show wpAny _ _ (PySem.setItem _ _ _) _ _ _)); (fail_if_success (with_reducible show InvEndN _ _ _ _ _ _ _)); first | ((with_reducible show wpAny _ _ (subscriptTail (PySem.Expr.Name (Str.ofString "table") _) _ (Value.ref _) (Value.int _ _)) _ _ _); refine row_item (by assumption) (by k_mem) (by first | assumption | omega) (by first | assumption | omega) (by first | assumption | omega) ?_) | ((with_reducible show wpAny _ _ (subscriptTail (PySem.Expr.Name (Str.ofString "names") _) _ (Value.ref _) (Value.int _ _)) _ _ _); refine name_item (by assumption) (by k_mem) (by assumption) (by first | assumption | omega) (by first | assumption | omega) (by first | assumption | omega) ?_; intro _) | (k_unfold; (try dsimp only)) | walk1 | (dsimp only; walk1) | (leave1; try dsimp only)))
      rename Fr g _ _ _ => FF
      rename News g _ _ _ => NN
      refine Pure.call (levV_ok _ _ _ due _ _ _) B' FF X' T' NN rfl (by show _ < _; decide) (by show _ < _; decide) ⟨hwl _ (by omega), hwl _ (by omega), (hlev i.toNat j.toNat (by omega) (by omega) _ (by rw [← hdd]; have := Int.fmod_nonneg_of_pos (i + j + (sns.length : Int)) (b := 3) (by decide); omega)).trans hdd.symm⟩ ?_
      rintro v h5 tk5 st5 ⟨t5, rfl⟩ F5 N5
      clear st5 FF NN
      (repeat' ((fail_if_success (with_reducible show wpAny _ _ (exec (Stmt.For _ _ _ _ _) _) _ _ _)); (fail_if_success (with_reducible show wpAny _ _ (pyIter _) _ _ _)); (fail_if_success (with_reducible show wpAny _ _ (PySem.call (Value.ref 163) _) _ _ _)); (fail_if_success (with_reducible show wpAny _ _ (PySem.call (Value.ref 28) _) _ _ _)); (fail_if_success (with_reducible show wpAny _ _ (PySem.setItem _ _ _) _ _ _)); (fail_if_success (with_reducible show InvEndN _ _ _ _ _ _ _)); first | ((with_reducible show wpAny _ _ (subscriptTail (PySem.Expr.Name (Str.ofString "table") _) _ (Value.ref _) (Value.int _ _)) _ _ _); refine row_item (by assumption) (by k_mem) (by first | assumption | omega) (by first | assumption | omega) (by first | assumption | omega) ?_) | ((with_reducible show wpAny _ _ (subscriptTail (PySem.Expr.Name (Str.ofString "names") _) _ (Value.ref _) (Value.int _ _)) _ _ _); refine name_item (by assumption) (by k_mem) (by assumption) (by first | assumption | omega) (by first | assumption | omega) (by first | assumption | omega) ?_; intro _) | (k_unfold; (try dsimp only)) | walk1 | (dsimp only; walk1) | (leave1; try dsimp only)))
      any_goals (try (exfalso; omega; done))
      rename Fr g L _ _ => FF
      rename News g L _ _ => NN
      refine cell_set (keep := (TB, listOf (Rs.map Value.ref).toArray kT) :: (L + 1, onm) :: (NM, listOf wv.toArray kN) :: (own ++ own1 ++ own2)) FF NN (fun p hp => (by repeat (first | exact hp | exact List.mem_append_right _ hp | exact List.mem_append_left _ hp | refine List.Mem.tail _ ?_ | refine List.mem_append_left _ ?_))) hT2 hR hk hnd hn (by omega) (by omega) (by omega) ?_ ?_
      · intro p hp
        have hp0 := hp
        refine ⟨?_, ?_⟩
        · rcases List.mem_cons.mp hp with rfl | hp
          · k_mem
          · rcases List.mem_cons.mp hp with rfl | hp
            · k_mem
            · rcases List.mem_cons.mp hp with rfl | hp
              · k_mem
              · rcases List.mem_append.mp hp with hp | hp
                · rcases List.mem_append.mp hp with hp | hp
                  · exact (by repeat (first | exact hp | exact List.mem_append_right _ hp | exact List.mem_append_left _ hp | refine List.Mem.tail _ ?_ | refine List.mem_append_left _ ?_))
                  · exact (by repeat (first | exact hp | exact List.mem_append_right _ hp | exact List.mem_append_left _ hp | refine List.Mem.tail _ ?_ | refine List.mem_append_left _ ?_))
                · exact (by repeat (first | exact hp | exact List.mem_append_right _ hp | exact List.mem_append_left _ hp | refine List.Mem.tail _ ?_ | refine List.mem_append_left _ ?_))
        · rcases List.mem_cons.mp hp with rfl | hp
          · exact hoff _ (.head _)
          · rcases List.mem_cons.mp hp with rfl | hp
            · exact hoff _ (.tail _ (.head _))
            · rcases List.mem_cons.mp hp with rfl | hp
              · exact hoff _ (.tail _ (.tail _ (.head _)))
              · rcases List.mem_append.mp hp with hp | hp
                · rcases List.mem_append.mp hp with hp | hp
                  · exact hoff p (.tail _ (.tail _ (.tail _ hp)))
                  · exact own_off3 hoff1 (by omega) (by omega) p hp
                · exact own_off3 (X := own ++ own1) (by rw [← List.append_assoc]; exact hoff2) (by omega) (by omega) p hp
      · intro us3 h3 hT3 F3 N3
        clear NN FF
        simp only [List.cons_append] at N3
        (repeat' ((fail_if_success (with_reducible show wpAny _ _ (exec (Stmt.For _ _ _ _ _) _) _ _ _)); (fail_if_success (with_reducible show wpAny _ _ (pyIter _) _ _ _)); (fail_if_success (with_reducible show wpAny _ _ (PySem.call (Value.ref 163) _) _ _ _)); (fail_if_success (with_reducible show wpAny _ _ (PySem.call (Value.ref 28) _) _ _ _)); (fail_if_success (with_reducible show wpAny _ _ (PySem.setItem _ _ _) _ _ _)); (fail_if_success (with_reducible show InvEndN _ _ _ _ _ _ _)); first | ((with_reducible show wpAny _ _ (subscriptTail (PySem.Expr.Name (Str.ofString "table") _) _ (Value.ref _) (Value.int _ _)) _ _ _); refine row_item (by assumption) (by k_mem) (by first | assumption | omega) (by first | assumption | omega) (by first | assumption | omega) ?_) | ((with_reducible show wpAny _ _ (subscriptTail (PySem.Expr.Name (Str.ofString "names") _) _ (Value.ref _) (Value.int _ _)) _ _ _); refine name_item (by assumption) (by k_mem) (by assumption) (by first | assumption | omega) (by first | assumption | omega) (by first | assumption | omega) ?_; intro _) | (k_unfold; (try dsimp only)) | walk1 | (dsimp only; walk1) | (leave1; try dsimp only)))
        rename Fr g L _ _ => FF
        rename News g L _ _ => NN
        refine cell_set (keep := (TB, listOf (Rs.map Value.ref).toArray kT) :: (L + 1, onm) :: (NM, listOf wv.toArray kN) :: (own ++ own1 ++ own2)) FF NN (fun p hp => (by repeat (first | exact hp | exact List.mem_append_right _ hp | exact List.mem_append_left _ hp | refine List.Mem.tail _ ?_ | refine List.mem_append_left _ ?_))) hT3 hR hk hnd hn (by omega) (by omega) (by omega) ?_ ?_
        · intro p hp
          have hp0 := hp
          refine ⟨?_, ?_⟩
          · rcases List.mem_cons.mp hp with rfl | hp
            · k_mem
            · rcases List.mem_cons.mp hp with rfl | hp
              · k_mem
              · rcases List.mem_cons.mp hp with rfl | hp
                · k_mem
                · rcases List.mem_append.mp hp with hp | hp
                  · rcases List.mem_append.mp hp with hp | hp
                    · exact (by repeat (first | exact hp | exact List.mem_append_right _ hp | exact List.mem_append_left _ hp | refine List.Mem.tail _ ?_ | refine List.mem_append_left _ ?_))
                    · exact (by repeat (first | exact hp | exact List.mem_append_right _ hp | exact List.mem_append_left _ hp | refine List.Mem.tail _ ?_ | refine List.mem_append_left _ ?_))
                  · exact (by repeat (first | exact hp | exact List.mem_append_right _ hp | exact List.mem_append_left _ hp | refine List.Mem.tail _ ?_ | refine List.mem_append_left _ ?_))
          · rcases List.mem_cons.mp hp with rfl | hp
            · exact hoff _ (.head _)
            · rcases List.mem_cons.mp hp with rfl | hp
              · exact hoff _ (.tail _ (.head _))
              · rcases List.mem_cons.mp hp with rfl | hp
                · exact hoff _ (.tail _ (.tail _ (.head _)))
                · rcases List.mem_append.mp hp with hp | hp
                  · rcases List.mem_append.mp hp with hp | hp
                    · exact hoff p (.tail _ (.tail _ (.tail _ hp)))
                    · exact own_off3 hoff1 (by omega) (by omega) p hp
                  · exact own_off3 (X := own ++ own1) (by rw [← List.append_assoc]; exact hoff2) (by omega) (by omega) p hp
        · intro us4 h4 hT4 F4 N4
          clear NN FF
          (repeat' ((fail_if_success (with_reducible show wpAny _ _ (exec (Stmt.For _ _ _ _ _) _) _ _ _)); (fail_if_success (with_reducible show wpAny _ _ (pyIter _) _ _ _)); (fail_if_success (with_reducible show wpAny _ _ (PySem.call (Value.ref 163) _) _ _ _)); (fail_if_success (with_reducible show wpAny _ _ (PySem.call (Value.ref 28) _) _ _ _)); (fail_if_success (with_reducible show wpAny _ _ (PySem.setItem _ _ _) _ _ _)); (fail_if_success (with_reducible show InvEndN _ _ _ _ _ _ _)); first | ((with_reducible show wpAny _ _ (subscriptTail (PySem.Expr.Name (Str.ofString "table") _) _ (Value.ref _) (Value.int _ _)) _ _ _); refine row_item (by assumption) (by k_mem) (by first | assumption | omega) (by first | assumption | omega) (by first | assumption | omega) ?_) | ((with_reducible show wpAny _ _ (subscriptTail (PySem.Expr.Name (Str.ofString "names") _) _ (Value.ref _) (Value.int _ _)) _ _ _); refine name_item (by assumption) (by k_mem) (by assumption) (by first | assumption | omega) (by first | assumption | omega) (by first | assumption | omega) ?_; intro _) | (k_unfold; (try dsimp only)) | walk1 | (dsimp only; walk1) | (leave1; try dsimp only)))
          refine kst_end us4 F4 N4 ?hn ?ho ?ha hT4.len (List.forall_mem_nil _) ?hr ?hp
          case hn =>
            refine List.forall_mem_cons.mpr ⟨.head _, List.forall_mem_cons.mpr ⟨.tail _ (.head _), List.forall_mem_cons.mpr ⟨.tail _ (.tail _ (.head _)), fun p hp => ?_⟩⟩⟩
            rcases List.mem_append.mp hp with hp | hp
            · rcases List.mem_append.mp hp with hp | hp
              · exact List.mem_append_right _ hp
              · exact List.mem_append_left _ (.tail _ (.tail _ (.tail _ (List.mem_append_left _ (List.mem_append_left _ hp)))))
            · exact List.mem_append_left _ (.tail _ (.tail _ (.tail _ (List.mem_append_left _ (List.mem_append_right _ hp)))))
          case ho => exact fun p hp => List.mem_append_left _ (.tail _ (.tail _ (.tail _ (List.mem_append_right _ hp))))
          case ha =>
            simp only [List.map_cons, List.map_append, rowsLed_fst (show ks.length = Rs.length by omega) (show us4.length = Rs.length by rw [hT4.len, hR]), rowsLed_fst (show ks.length = Rs.length by omega) (show us.length = Rs.length by omega)]
          case hr =>
            intro z h1 _ h3
            have h4 := h3
            simp only [List.contains_cons, List.contains_nil, Bool.or_false, Bool.or_eq_false_iff, beq_eq_false_iff_ne, ne_eq] at h3
            simp only [h1, h3, h4, if_false, Bool.false_eq_true]
          case hp =>
            rw [show i.toNat = pre.length by omega, show j.toNat = pre2.length by omega] at hT4 hdd
            refine hT4.congr fun x y _ _ => ?_
            rw [List.length_append, List.length_singleton]
            exact pstg_set (dueT_symm _ _ _) hdd (by omega) x y
    · intro us3 u3 h3 tk3 hu3 hT3 F3 N3
      (repeat' ((fail_if_success (with_reducible show wpAny _ _ (exec (Stmt.For _ _ _ _ _) _) _ _ _)); (fail_if_success (with_reducible show wpAny _ _ (pyIter _) _ _ _)); (fail_if_success (with_reducible show wpAny _ _ (PySem.call (Value.ref 163) _) _ _ _)); (fail_if_success (with_reducible show wpAny _ _ (PySem.call (Value.ref 28) _) _ _ _)); (fail_if_success (with_reducible show wpAny _ _ (PySem.setItem _ _ _) _ _ _)); (fail_if_success (with_reducible show InvEndN _ _ _ _ _ _ _)); first | ((with_reducible show wpAny _ _ (subscriptTail (PySem.Expr.Name (Str.ofString "table") _) _ (Value.ref _) (Value.int _ _)) _ _ _); refine row_item (by assumption) (by k_mem) (by first | assumption | omega) (by first | assumption | omega) (by first | assumption | omega) ?_) | ((with_reducible show wpAny _ _ (subscriptTail (PySem.Expr.Name (Str.ofString "names") _) _ (Value.ref _) (Value.int _ _)) _ _ _); refine name_item (by assumption) (by k_mem) (by assumption) (by first | assumption | omega) (by first | assumption | omega) (by first | assumption | omega) ?_; intro _) | (k_unfold; (try dsimp only)) | walk1 | (dsimp only; walk1) | (leave1; try dsimp only)))
      dsimp only [kstB] at F3
      refine kst_end us3 F3 N3 ?hn ?ho ?ha hT3.len (List.forall_mem_nil _) ?hr ?hp
      case hn =>
        intro p hp
        exact (by repeat (first | exact hp | exact List.mem_append_right _ hp | exact List.mem_append_left _ hp | refine List.Mem.tail _ ?_ | refine List.mem_append_left _ ?_))
      case ho =>
        intro p hp
        exact (by repeat (first | exact hp | exact List.mem_append_right _ hp | exact List.mem_append_left _ hp | refine List.Mem.tail _ ?_ | refine List.mem_append_left _ ?_))
      case ha =>
        simp only [List.map_cons, List.map_append, rowsLed_fst (show ks.length = Rs.length by omega) (show us3.length = Rs.length by omega), rowsLed_fst (show ks.length = Rs.length by omega) (show us0.length = Rs.length by omega)]
      case hr =>
        intro z h1 _ h3
        have h4 := h3
        simp only [List.contains_cons, List.contains_nil, Bool.or_false, Bool.or_eq_false_iff, beq_eq_false_iff_ne, ne_eq] at h3
        have h5 : [Str.ofString "due", Str.ofString "bound"].contains z = false := by simp [h3.2.1, h3.2.2]
        simp only [h1, h3, h4, h5, if_false, Bool.false_eq_true]
      case hp =>
        rw [rangeKs_length] at hT3
        refine hT3.congr fun x y _ _ => ?_
        rw [List.length_append, List.length_singleton]
        exact pstg_next (fun x => by unfold dueT; rw [if_neg (Nat.lt_irrefl _), if_neg (Nat.lt_irrefl _)]) _ _ _
  · intro us3 u3 h3 tk3 _ hT3 F3 N3
    rw [rangeKs_length] at hT3
    exact hret us3 _ _ u3 (hT3.congr fun x y hx hy => pstg_all hx hy) F3 N3
end Mine

-- P18
open PySem PySem.W PyProof.Rows PyProof
set_option Elab.async false
set_option maxRecDepth 100000
set_option linter.unusedVariables false
namespace Mine
/-- a loop over a range whose turns may make objects that stay: by induction over the turns -/
theorem range_ind {prog : Program} {w : World} {A : Around} {E : Value → Shared → Prop} {h₀ : Heap} {env : Env} {x : Str} {body : List Stmt} {Q : Flow → Shared → Prop} {s : Shared} {I : Addr} {a : Int} {N : Nat} (J : Nat → (Str → Option Value) → List (Addr × Obj) → Prop) (n : Nat)
    (turn : ∀ i m news, i < n → J i m news → ∀ t h tk, Fr h₀ env.locals h (fun y => if y = x then some (.int (a + (i : Int)) t) else m y) →
      News h₀ env.locals h ((I, itR (a + ((i + 1 : Nat) : Int)) ((N : Int) - ((i + 1 : Nat) : Int))) :: news) →
      wpAny (model prog w) A (execs body env) (UnrPost h₀ env.locals { s with heap := h, toks := tk } I (itR (a + ((i + 1 : Nat) : Int)) ((N : Int) - ((i + 1 : Nat) : Int))) (J (i + 1)) Q) E { s with heap := h, toks := tk })
    (fin : ∀ m news, J n m news → ∀ h tk, Fr h₀ env.locals h m → News h₀ env.locals h news → Q .next { s with heap := h, toks := tk }) :
    ∀ k i m news, i + k = n → J i m news → RangeRest prog w A E h₀ env x body Q s I a N k i m news
  | 0, i, m, news, e, hj => RangeRest.zero (fin m news (by rw [Nat.add_zero] at e; rw [← e]; exact hj))
  | k + 1, i, m, news, e, hj => RangeRest.succ fun t h tk F N' => by
    refine wpAny_mono (turn i m news (by omega) hj t h tk F N') (fun f s₂ q => ?_) fun _ _ z => z
    have up : UnrEnd h₀ env.locals { s with heap := h, toks := tk } I (itR (a + ((i + 1 : Nat) : Int)) ((N : Int) - ((i + 1 : Nat) : Int))) (J (i + 1)) s₂ → UnrEnd h₀ env.locals { s with heap := h, toks := tk } I (itR (a + ((i + 1 : Nat) : Int)) ((N : Int) - ((i + 1 : Nat) : Int))) (RangeRest prog w A E h₀ env x body Q s I a N k (i + 1)) s₂ := by
      rintro ⟨h', tk', m', news', e1, F', N'', off, r⟩
      exact ⟨h', tk', m', news', e1, F', N'', off, range_ind J n turn fin k (i + 1) _ _ (by omega) r⟩
    cases f with
    | ret v => exact q
    | brk => exact q
    | next => exact up q
    | cont => exact up q
/-- a loop over a list on the ledger, likewise -/
theorem list_ind {prog : Program} {w : World} {A : Around} {E : Value → Shared → Prop} {h₀ : Heap} {env : Env} {x : Str} {body : List Stmt} {Q : Flow → Shared → Prop} {s : Shared} {I : Addr} {lp : Addr × Obj} {vs : List Value} (J : Nat → (Str → Option Value) → List (Addr × Obj) → Prop)
    (turn : ∀ i v m news, vs[i]? = some v → J i m news → ∀ (it : Obj) h tk, it.cls = .type "list_iterator" → Fr h₀ env.locals h (fun y => if y = x then some v else m y) → News h₀ env.locals h ((I, it) :: news) →
      wpAny (model prog w) A (execs body env) (UnrPost h₀ env.locals { s with heap := h, toks := tk } I it (fun m' n' => lp ∈ n' ∧ J (i + 1) m' n') Q) E { s with heap := h, toks := tk })
    (fin : ∀ m news, J vs.length m news → ∀ h tk, Fr h₀ env.locals h m → News h₀ env.locals h news → Q .next { s with heap := h, toks := tk }) :
    ∀ r i m news, vs.drop i = r → i + r.length = vs.length → J i m news → ListRest prog w A E h₀ env x body Q s I lp r m news
  | [], i, m, news, _, e, hj => ListRest.zero (fin m news (by rw [← e]; exact hj))
  | v :: r, i, m, news, hd, e, hj => ListRest.succ fun it h tk hit F N' => by
    have hv : vs[i]? = some v := by
      have := congrArg (fun l : List Value => l[0]?) hd
      simpa using this
    have hd' : vs.drop (i + 1) = r := by
      have := congrArg List.tail hd
      simpa using this
    refine wpAny_mono (turn i v m news hv hj it h tk hit F N') (fun f s₂ q => ?_) fun _ _ z => z
    have up : UnrEnd h₀ env.locals { s with heap := h, toks := tk } I it (fun m' n' => lp ∈ n' ∧ J (i + 1) m' n') s₂ → UnrEnd h₀ env.locals { s with heap := h, toks := tk } I it (fun m' n' => lp ∈ n' ∧ ListRest prog w A E h₀ env x body Q s I lp r m' n') s₂ := by
      rintro ⟨h', tk', m', news', e1, F', N'', off, hl, z⟩
      exact ⟨h', tk', m', news', e1, F', N'', off, hl, list_ind J turn fin r (i + 1) _ _ hd' (by rw [← e, List.length_cons]; omega) z⟩
    cases f with
    | ret v => exact q
    | brk => exact q
    | next => exact up q
    | cont => exact up q
end Mine

-- P19
open PySem PySem.W PyProof.Rows PyProof
set_option Elab.async false
set_option maxRecDepth 100000
set_option linter.unusedVariables false
namespace Mine
/-- the ways (a, l, q) on the heap -/
noncomputable def WaysIn (h : Heap) (D : Addr) (ws : List (Int × Int × Int)) : Prop :=
  ∃ refs : List Value, h.IsList D refs.toArray ∧ refs.length = ws.length ∧ ∀ j, j < ws.length → ∃ T t u v, refs[j]? = some (.ref T) ∧ IsTup h T #[.int (ws.getD j (0, 0, 0)).1 t, .int (ws.getD j (0, 0, 0)).2.1 u, .int (ws.getD j (0, 0, 0)).2.2 v]
structure GoodWays (ws : List (Int × Int × Int)) : Prop where
  len : ws.length = 3 ∨ ws.length = 4
  at' : ∀ j, j < ws.length → 0 ≤ (ws.getD j (0, 0, 0)).1 ∧ (ws.getD j (0, 0, 0)).1 ≤ j ∧ 1 ≤ (ws.getD j (0, 0, 0)).2.1 ∧ (ws.getD j (0, 0, 0)).2.1 ≤ 2 ∧ 0 ≤ (ws.getD j (0, 0, 0)).2.2 ∧ (ws.getD j (0, 0, 0)).2.2 ≤ 1
theorem item_way {prog : Program} {w : World} {A : Around} {E : Value → Shared → Prop} {s : Shared} {g : Heap} {L : Addr} {m : Str → Option Value} {value slice : PySem.Expr} {D : Addr} {ws : List (Int × Int × Int)} {k : Int} {u : Tok} {Q : Value → Shared → Prop}
    (F : Fr g L s.heap m) (hl : WaysIn g D ws) (h0 : 0 ≤ k) (h1 : k < ws.length) (hlen : ws.length ≤ 4)
    (h : ∀ T t u v, IsTup g T #[.int (ws.getD k.toNat (0, 0, 0)).1 t, .int (ws.getD k.toNat (0, 0, 0)).2.1 u, .int (ws.getD k.toNat (0, 0, 0)).2.2 v] → Q (.ref T) s)
    (hs : subscripted slice false (.ref D) (.int k u) = operate [.ref D, .int k u] (getItem (.ref D) (.int k u)) := by with_unfolding_all rfl) :
    wpAny (model prog w) A (subscriptTail value slice (.ref D) (.int k u)) Q E s := by
  obtain ⟨refs, hl, hn, hT⟩ := hl
  obtain ⟨T, t1, t2, t3, hx, hT1⟩ := hT k.toNat (by omega)
  have hl' : s.heap.IsList D refs.toArray := stays_list F.keep hl
  exact tail_any hl'.typeIs slot_list_getitem.lookup (wpAny_getItem_list hl' h0 (by omega) (by simpa using hx) (h T t1 t2 t3 hT1)) hs
/-- one-sign texts -/
noncomputable def TextsAre (us : List Value) (cs : List Nat) : Prop := us.length = cs.length ∧ ∀ j, j < cs.length → ∃ t, us[j]? = some (.str ⟨#[cs.getD j 0]⟩ t)
noncomputable def letC (k : Nat) (l : Int) : Nat := if l = 1 then 65 + k else 49 + k
/-- the rows as codes -/
noncomputable def rowsN (ws : List (Int × Int × Int)) : Nat → List (List Nat)
  | 0 => [(List.range ws.length).map (97 + ·)]
  | k + 1 => rowsN ws k ++ [((rowsN ws k).getD (ws.getD k (0, 0, 0)).1.toNat []).set k (letC k (ws.getD k (0, 0, 0)).2.1)]
theorem rowsN_len (ws : List (Int × Int × Int)) : ∀ k, (rowsN ws k).length = k + 1
  | 0 => rfl
  | k + 1 => by rw [rowsN, List.length_append, rowsN_len ws k]; rfl
theorem rowsN_row {ws : List (Int × Int × Int)} (hg : GoodWays ws) : ∀ k, k ≤ ws.length → ∀ r ∈ rowsN ws k, r.length = ws.length
  | 0, _, r, hr => by
    obtain rfl := List.mem_singleton.mp hr
    rw [List.length_map, List.length_range]
  | k + 1, hk, r, hr => by
    rcases List.mem_append.mp hr with hr | hr
    · exact rowsN_row hg k (by omega) r hr
    · obtain rfl := List.mem_singleton.mp hr
      rw [List.length_set]
      have ha := hg.at' k (by omega)
      have hl := rowsN_len ws k
      have hlt : (ws.getD k (0, 0, 0)).1.toNat < (rowsN ws k).length := by omega
      refine rowsN_row hg k (by omega) _ ?_
      rw [List.getD_eq_getElem?_getD, List.getElem?_eq_getElem hlt]
      exact List.getElem_mem _
theorem TextsAre.set {us : List Value} {cs : List Nat} {k c : Nat} {t : Tok} (h : TextsAre us cs) : TextsAre (us.set k (.str ⟨#[c]⟩ t)) (cs.set k c) := by
  refine ⟨by rw [List.length_set, List.length_set]; exact h.1, fun j hj => ?_⟩
  rw [List.length_set] at hj
  by_cases e : k = j
  · subst e
    refine ⟨t, ?_⟩
    rw [List.getElem?_set_self (by rw [h.1]; exact hj), List.getD_eq_getElem?_getD, List.getElem?_set_self hj]
    rfl
  · obtain ⟨t', ht⟩ := h.2 j hj
    refine ⟨t', ?_⟩
    rw [List.getElem?_set_ne e, List.getD_eq_getElem?_getD, List.getElem?_set_ne e, ← List.getD_eq_getElem?_getD]
    exact ht
end Mine

-- P21
open PySem PySem.W PyProof.Rows PyProof
set_option Elab.async false
set_option maxRecDepth 100000
set_option linter.unusedVariables false
namespace Mine
/-- the word of a row after k places -/
noncomputable def wordP (ws : List (Int × Int × Int)) (r : List Nat) : Nat → List Nat
  | 0 => [r.getD 0 0, 34]
  | k + 1 => wordP ws r k ++ (if k = 0 then [] else [r.getD k 0]) ++ List.replicate (ws.getD k (0, 0, 0)).2.2.toNat 34
noncomputable def wordS (ws : List (Int × Int × Int)) (i : Nat) : Str := ⟨(wordP ws ((rowsN ws ws.length).getD i []) ws.length).toArray⟩
theorem text_item {prog : Program} {w : World} {A : Around} {E : Value → Shared → Prop} {s : Shared} {g : Heap} {L : Addr} {news : List (Addr × Obj)} {value slice : PySem.Expr} {R : Addr} {us : List Value} {cs : List Nat} {c : Nat} {j : Int} {u : Tok} {Q : Value → Shared → Prop}
    (N : News g L s.heap news) (hm : (R, listOf us.toArray c) ∈ news) (hT : TextsAre us cs) (h0 : 0 ≤ j) (h1 : j < cs.length) (hl : cs.length ≤ 5) (h : ∀ t, Q (.str ⟨#[cs.getD j.toNat 0]⟩ t) s)
    (hs : subscripted slice false (.ref R) (.int j u) = operate [.ref R, .int j u] (getItem (.ref R) (.int j u)) := by with_unfolding_all rfl) :
    wpAny (model prog w) A (subscriptTail value slice (.ref R) (.int j u)) Q E s := by
  have hL : s.heap.IsList R us.toArray := ⟨_, (N _ hm).1, rfl, _, rfl⟩
  obtain ⟨t, ht⟩ := hT.2 j.toNat (by omega)
  exact tail_any hL.typeIs slot_list_getitem.lookup (wpAny_getItem_list hL h0 (by omega) (by simpa using ht) (h t)) hs
theorem str_app {a b : Array Nat} : (⟨a⟩ : Str) ++ (⟨b⟩ : Str) = ⟨a ++ b⟩ := rfl
theorem quote_str : Str.ofString "\"" = ⟨#[34]⟩ := by decide +kernel
theorem mul_quote {q : Int} (h0 : 0 ≤ q) (h1 : q ≤ 1) : Txt.mul (Str.ofString "\"") q = ⟨(List.replicate q.toNat 34).toArray⟩ := by
  have h : q = 0 ∨ q = 1 := by omega
  rcases h with rfl | rfl <;> decide +kernel
theorem wordP_len {ws : List (Int × Int × Int)} (hg : GoodWays ws) (r : List Nat) : ∀ k, k ≤ ws.length → (wordP ws r k).length ≤ 2 + 2 * k
  | 0, _ => by simp [wordP]
  | k + 1, h => by
    have h1 := wordP_len hg r k (by omega)
    have h2 := hg.at' k (by omega)
    rw [wordP, List.length_append, List.length_append, List.length_replicate]
    have h3 : (if k = 0 then [] else [r.getD k 0]).length ≤ 1 := by split <;> simp
    omega
theorem wordS_len {ws : List (Int × Int × Int)} (hg : GoodWays ws) {i : Nat} : (wordS ws i).length ≤ 60 := by
  have h := wordP_len hg ((rowsN ws ws.length).getD i []) ws.length (Nat.le_refl _)
  have hl := hg.len
  have e : (wordS ws i).length = (wordP ws ((rowsN ws ws.length).getD i []) ws.length).length := List.size_toArray
  omega
theorem rowsN_codes {ws : List (Int × Int × Int)} (hg : GoodWays ws) : ∀ k, k ≤ ws.length → ∀ r ∈ rowsN ws k, ∀ c ∈ r, c < 128
  | 0, _, r, hr, c, hc => by
    obtain rfl := List.mem_singleton.mp hr
    obtain ⟨j, hj, rfl⟩ := List.mem_map.mp hc
    have h1 := List.mem_range.mp hj
    have h2 := hg.len
    omega
  | k + 1, hk, r, hr, c, hc => by
    have hlen := hg.len
    rcases List.mem_append.mp hr with hr | hr
    · exact rowsN_codes hg k (by omega) r hr c hc
    · obtain rfl := List.mem_singleton.mp hr
      rcases List.mem_or_eq_of_mem_set hc with hc | rfl
      · have hl := rowsN_len ws k
        have ha := hg.at' k (by omega)
        have hlt : (ws.getD k (0, 0, 0)).1.toNat < (rowsN ws k).length := by omega
        rw [List.getD_eq_getElem?_getD, List.getElem?_eq_getElem hlt] at hc
        exact rowsN_codes hg k (by omega) _ (List.getElem_mem _) c hc
      · unfold letC
        split <;> omega
theorem wordP_codes {ws : List (Int × Int × Int)} {r : List Nat} (h : ∀ c ∈ r, c < 128) : ∀ k, ∀ c ∈ wordP ws r k, c < 128
  | 0, c, hc => by
    have hd : r.getD 0 0 < 128 := by
      rw [List.getD_eq_getElem?_getD]
      cases r with
      | nil => decide
      | cons a r => exact h a (.head _)
    simp only [wordP, List.mem_cons, List.not_mem_nil, or_false] at hc
    rcases hc with rfl | rfl
    · exact hd
    · decide
  | k + 1, c, hc => by
    rw [wordP, List.mem_append, List.mem_append] at hc
    rcases hc with (hc | hc) | hc
    · exact wordP_codes h k c hc
    · split at hc
      · cases hc
      · obtain rfl := List.mem_singleton.mp hc
        rw [List.getD_eq_getElem?_getD]
        cases e : r[k]? with
        | none => decide
        | some a => exact h a (List.mem_of_getElem? e)
    · rw [(List.mem_replicate.mp hc).2]
      decide
theorem wordS_ok {ws : List (Int × Int × Int)} (hg : GoodWays ws) {i : Nat} (hi : i < ws.length + 1) : PyData.strOk (wordS ws i) = true := by
  have hlt : i < (rowsN ws ws.length).length := by rw [rowsN_len]; exact hi
  have hc := wordP_codes (ws := ws) (rowsN_codes hg ws.length (Nat.le_refl _) ((rowsN ws ws.length).getD i []) (by rw [List.getD_eq_getElem?_getD, List.getElem?_eq_getElem hlt]; exact List.getElem_mem _)) ws.length
  unfold PyData.strOk wordS
  simp only [List.all_toArray, List.all_eq_true, decide_eq_true_eq]
  exact fun c h => Nat.lt_trans (hc c h) (by decide)
end Mine

-- FW3
open PySem PySem.W PyProof.Rows PyProof
set_option Elab.async false
set_option maxRecDepth 100000
set_option maxHeartbeats 8000000
set_option pp.deepTerms false
set_option pp.deepTerms.threshold 6
set_option rowWalk.seconds 0
namespace Mine
theorem texts3 {n : Nat} {u0 u1 u2 u3 : Tok} (h : n = 3) : TextsAre [.str ⟨#[97]⟩ u0, .str ⟨#[98]⟩ u1, .str ⟨#[99]⟩ u2] ((List.range n).map (97 + ·)) := by
  subst h
  refine ⟨rfl, fun j hj => ?_⟩
  rcases j with _ | _ | _ | j
  · exact ⟨_, rfl⟩
  · exact ⟨_, rfl⟩
  · exact ⟨_, rfl⟩
  · exact absurd hj (by rw [List.length_map, List.length_range]; omega)
theorem texts4 {n : Nat} {u0 u1 u2 u3 : Tok} (h : n = 4) : TextsAre [.str ⟨#[97]⟩ u0, .str ⟨#[98]⟩ u1, .str ⟨#[99]⟩ u2, .str ⟨#[100]⟩ u3] ((List.range n).map (97 + ·)) := by
  subst h
  refine ⟨rfl, fun j hj => ?_⟩
  rcases j with _ | _ | _ | _ | j
  · exact ⟨_, rfl⟩
  · exact ⟨_, rfl⟩
  · exact ⟨_, rfl⟩
  · exact ⟨_, rfl⟩
  · exact absurd hj (by rw [List.length_map, List.length_range]; omega)

theorem getD_left {α : Type} {l r : List α} {j : Nat} {d : α} (h : j < l.length) : (l ++ r).getD j d = l.getD j d := by
  simp only [List.getD_eq_getElem?_getD, List.getElem?_append_left h]
theorem getD_last {α : Type} {l : List α} {x : α} {j : Nat} {d : α} (h : l.length = j) : (l ++ [x]).getD j d = x := by
  subst h
  simp
theorem it_ne_list {a b : Int} {u : Array Value} {k : Nat} : itR a b ≠ listOf u k := by
  intro e
  have h1 : Value.type "range_iterator" = Value.type "list" := congrArg Obj.cls e
  injection h1 with h1
  exact absurd h1 (by decide)
theorem list_set {prog : Program} {w : World} {A : Around} {E : Value → Shared → Prop} {s : Shared} {g : Heap} {L : Addr} {m : Str → Option Value} {D : Addr} {us : List Value} {c : Nat} {rest : List (Addr × Obj)} {k : Int} {u : Tok} {v : Value} {Q : Unit → Shared → Prop}
    (F : Fr g L s.heap m) (N : News g L s.heap ((D, listOf us.toArray c) :: rest)) (hoff : ∀ p ∈ rest, p.1 ≠ D) (h0 : 0 ≤ k) (h1 : k < us.length) (hl : us.length ≤ 60)
    (h : ∀ h', Fr g L h' m → News g L h' ((D, listOf (us.set k.toNat v).toArray c) :: rest) → Q () { s with heap := h' }) :
    wpAny (model prog w) A (setItem (.ref D) (.int k u) v) Q E s := by
  have z := N _ (.head _)
  refine ki_setAt z.1 h0 (by omega) (by rw [List.size_toArray]; exact h1) ?_
  refine h _ (F.change (Heap.SameBut.update ..) z.2.1 z.2.2) fun p hp => ?_
  rcases List.mem_cons.mp hp with rfl | hp
  · refine ⟨?_, z.2⟩
    have q := PySem.IsL.update z.1 (fun a => a.setIfInBounds k.toNat v)
    have e1 : us.toArray.setIfInBounds k.toNat v = (us.set k.toNat v).toArray := by simp
    have e2 : (if ((us.set k.toNat v).toArray.size == us.toArray.size) = true then c else c + 1) = c := by simp
    rw [e1, e2] at q
    exact q
  · exact ⟨((Heap.SameBut.update s.heap D _).2 _ (hoff p hp)).trans (N p (.tail _ hp)).1, (N p (.tail _ hp)).2⟩
theorem item_abcd {i : Nat} (h : i < 4) : Txt.item (Str.ofString "ABCD") (i : Int) = ⟨#[65 + i]⟩ := by
  have : ∀ i : Fin 4, Txt.item (Str.ofString "ABCD") ((i.val : Nat) : Int) = ⟨#[65 + i.val]⟩ := by decide +kernel
  exact this ⟨i, h⟩
theorem item_1234 {i : Nat} (h : i < 4) : Txt.item (Str.ofString "1234") (i : Int) = ⟨#[49 + i]⟩ := by
  have : ∀ i : Fin 4, Txt.item (Str.ofString "1234") ((i.val : Nat) : Int) = ⟨#[49 + i.val]⟩ := by decide +kernel
  exact this ⟨i, h⟩
/-- the rows after i turns -/
structure RowsSt (D : Addr) (ws : List (Int × Int × Int)) (RL : Addr) (kT : Nat) (Rs : List Addr) (ks : List Nat) (us : List (List Value)) (i : Nat) (m : Str → Option Value) (news : List (Addr × Obj)) : Prop where
  way : m (Str.ofString "ways") = some (.ref D)
  row : m (Str.ofString "rows") = some (.ref RL)
  led : news = (RL, listOf (Rs.map Value.ref).toArray kT) :: rowsLed Rs ks us
  off : ∀ p ∈ rowsLed Rs ks us, p.1 ≠ RL
  lenR : Rs.length = i + 1
  lenk : ks.length = i + 1
  lenu : us.length = i + 1
  txt : ∀ j, j ≤ i → TextsAre (us.getD j []) ((rowsN ws i).getD j [])

theorem abcd_items {acc : Array Value} (h : ItemsOf (SignAt (Str.ofString "abcd")) acc (Str.ofString "abcd").cps.size) : ∃ u0 u1 u2 u3, acc = #[.str ⟨#[97]⟩ u0, .str ⟨#[98]⟩ u1, .str ⟨#[99]⟩ u2, .str ⟨#[100]⟩ u3] := by
  have e : (Str.ofString "abcd").cps = #[97, 98, 99, 100] := by decide +kernel
  obtain ⟨hs, h⟩ := h
  rw [e] at hs
  have hs : acc.size = 4 := hs
  have at' : ∀ j (hj : j < 4), ∃ u, acc[j]'(by omega) = .str ⟨#[97 + j]⟩ u := by
    intro j hj
    obtain ⟨c, u, h1, h2⟩ := h j (acc[j]'(by omega)) (by simp)
    rw [e] at h1
    refine ⟨u, h2.trans ?_⟩
    have : c = 97 + j := by
      rcases j with _ | _ | _ | _ | j
      · simpa using h1.symm
      · simpa using h1.symm
      · simpa using h1.symm
      · simpa using h1.symm
      · omega
    rw [this]
  obtain ⟨u0, h0⟩ := at' 0 (by omega)
  obtain ⟨u1, h1⟩ := at' 1 (by omega)
  obtain ⟨u2, h2⟩ := at' 2 (by omega)
  obtain ⟨u3, h3⟩ := at' 3 (by omega)
  refine ⟨u0, u1, u2, u3, ?_⟩
  apply Array.ext
  · exact hs
  · intro i hi hi'
    have : i < 4 := by omega
    rcases i with _ | _ | _ | _ | i
    · exact h0
    · exact h1
    · exact h2
    · exact h3
    · omega

theorem words_ok {w : World} {p : Program} {loose : List Str} {mean : ExcName → Option Value} {mg mb : Str → Option Value} (D : Addr) (ws : List (Int × Int × Int)) :
  Pure PySem.Challenge.rw_rs0157_01.prog w (hd1.heap_1 w.params) p loose mean mg mb 135 1 8 [.ref D] (fun h => WaysIn h D ws ∧ GoodWays ws) (NewObj fun o => ∃ (wv : List Value) (wk : Nat), o = listOf wv.toArray wk ∧ wv.length = ws.length + 1 ∧ ∀ j, j < ws.length + 1 → ∃ t, wv[j]? = some (.str (wordS ws j) t)) := by
  k_fill
  k_with_none
  w_top off
  intro dp un gd cn cs a ccd cl outer A₀ base h₀ L m s Q E hB hF hX hT hcs hdp hun hpre hret
  refine wpAny_call ?_
  ((k_dflt (refine' code_pure ?k1 ?k2 ?k3 ?k5 ?kA ?kF ?kK ?k6 ?k7 ?k8 ?k9 ?kB ?_ ?c2 ?c3 ?c4 ?c5; (case kA => exact rfl); (case kF => exact rfl); (case kK => assumption); (case k1 => k_asm); (case k2 => k_asm); (case k3 => k_asm); (case k5 => k_asm); (case k6 => k_is); (case k7 => k_is); (case k8 => (show _ < _; dsimp only; omega)); (case k9 => exact BindsTo.of_eq rfl); (case c5 => decide); (case kB => exact locs rfl); (case c2 => exact rfl); (case c3 => exact rfl); (case c4 => exact rfl); k_whole)))
  intro g L' h₁ hg F' N' B' X' T'
  (try dsimp only); (try k_fold)
  rw [← hg] at hpre
  obtain ⟨hD, hgw⟩ := hpre
  have hlen := hgw.len
  refine cutF (σ := Addr × Addr × Nat × Nat × List Value) (fun c => [(c.1, listOf #[.ref c.2.1] c.2.2.1), (c.2.1, listOf c.2.2.2.2.toArray c.2.2.2.1)]) (fun c => [(Str.ofString "rows", .ref c.1)]) [] (fun c => TextsAre c.2.2.2.2 ((List.range ws.length).map (97 + ·)) ∧ c.2.1 ≠ c.1) F' N' ?_ ?_
  · have key := hlen
    rcases hlen with hlen | hlen
    · obtain ⟨refs, hDl, hrl, _⟩ := id hD
      have hsz : refs.toArray.size = 3 := by rw [List.size_toArray, hrl, hlen]
      (repeat' ((fail_if_success (with_reducible show wpAny _ _ (exec (Stmt.For _ _ _ _ _) _) _ _ _)); (fail_if_success (with_reducible show wpAny _ _ (pyIter _) _ _ _)); (fail_if_success (with_reducible show wpAny _ _ (subscriptTail (PySem.Expr.Name (Str.ofString "rows") _) _ _ _) _ _ _)); (fail_if_success (with_reducible show wpAny _ _ (subscriptTail (PySem.Expr.Name (Str.ofString "row") _) _ _ _) _ _ _)); (fail_if_success (with_reducible show wpAny _ _ (PySem.call (Value.builtin "list.append") _) _ _ _)); (fail_if_success (with_reducible show wpAny _ _ (PySem.call (Value.type "list") _) _ _ _)); (fail_if_success (with_reducible show wpAny _ _ (PySem.setItem _ _ _) _ _ _)); (fail_if_success (with_reducible show wpAny _ _ (execs (Stmt.Assign [PySem.Expr.Subscript _ _ _] _ _ :: _) _) _ _ _)); (fail_if_success (with_reducible show UnrEnd _ _ _ _ _ _ _)); (fail_if_success (with_reducible show wpAny _ _ (newList []) _ _ _)); (fail_if_success (with_reducible show wpAny _ _ (execs (Stmt.If (PySem.Expr.Compare (PySem.Expr.Name (Str.ofString "k") _) _ _ _) _ _ _ :: _) _) _ _ _)); (fail_if_success (with_reducible show InvEndN _ _ _ _ _ _ _)); first | ((with_reducible show wpAny _ _ (subscriptTail (PySem.Expr.Name (Str.ofString "ways") _) _ (Value.ref _) (Value.int _ _)) _ _ _); refine item_way (by assumption) (by assumption) (by first | assumption | omega) (by first | assumption | omega) (by first | assumption | omega) ?_; intro _ _ _ _ _) | ((with_reducible show wpAny _ _ (subscriptTail (PySem.Expr.Subscript _ _ _) _ (Value.ref _) (Value.int _ _)) _ _ _); refine tup_at (by first | assumption | exact IsTup.keeps (by assumption) (Fr.keep (by assumption))) (by decide) (by decide) rfl ?_) | (k_unfold; (try dsimp only)) | walk1 | (dsimp only; walk1) | (leave1; try dsimp only)))
      rename Fr g L' _ _ => FF
      rename News g L' _ _ => NN
      refine call_list_str rfl _ _ (fun h2 tk2 acc2 c2 hk2 hS2 hI2 => ?_) (by decide)
      have F2 := FF.keeps hk2
      have N2 := news_pushed FF NN hk2 hS2 rfl
      obtain ⟨u0, u1, u2, u3, rfl⟩ := abcd_items hI2
      clear NN FF hk2 hS2 hI2
      (repeat' ((fail_if_success (with_reducible show wpAny _ _ (exec (Stmt.For _ _ _ _ _) _) _ _ _)); (fail_if_success (with_reducible show wpAny _ _ (pyIter _) _ _ _)); (fail_if_success (with_reducible show wpAny _ _ (subscriptTail (PySem.Expr.Name (Str.ofString "rows") _) _ _ _) _ _ _)); (fail_if_success (with_reducible show wpAny _ _ (subscriptTail (PySem.Expr.Name (Str.ofString "row") _) _ _ _) _ _ _)); (fail_if_success (with_reducible show wpAny _ _ (PySem.call (Value.builtin "list.append") _) _ _ _)); (fail_if_success (with_reducible show wpAny _ _ (PySem.call (Value.type "list") _) _ _ _)); (fail_if_success (with_reducible show wpAny _ _ (PySem.setItem _ _ _) _ _ _)); (fail_if_success (with_reducible show wpAny _ _ (execs (Stmt.Assign [PySem.Expr.Subscript _ _ _] _ _ :: _) _) _ _ _)); (fail_if_success (with_reducible show UnrEnd _ _ _ _ _ _ _)); (fail_if_success (with_reducible show wpAny _ _ (newList []) _ _ _)); (fail_if_success (with_reducible show wpAny _ _ (execs (Stmt.If (PySem.Expr.Compare (PySem.Expr.Name (Str.ofString "k") _) _ _ _) _ _ _ :: _) _) _ _ _)); (fail_if_success (with_reducible show InvEndN _ _ _ _ _ _ _)); first | ((with_reducible show wpAny _ _ (subscriptTail (PySem.Expr.Name (Str.ofString "ways") _) _ (Value.ref _) (Value.int _ _)) _ _ _); refine item_way (by assumption) (by assumption) (by first | assumption | omega) (by first | assumption | omega) (by first | assumption | omega) ?_; intro _ _ _ _ _) | ((with_reducible show wpAny _ _ (subscriptTail (PySem.Expr.Subscript _ _ _) _ (Value.ref _) (Value.int _ _)) _ _ _); refine tup_at (by first | assumption | exact IsTup.keeps (by assumption) (Fr.keep (by assumption))) (by decide) (by decide) rfl ?_) | (k_unfold; (try dsimp only)) | walk1 | (dsimp only; walk1) | (leave1; try dsimp only)))
      rename Fr g L' _ _ => FF
      rename News g L' _ _ => NN
      simp only [hsz] at NN
      with_unfolding_all exact Hand.mk (_, _, _, _, [.str ⟨#[97]⟩ u0, .str ⟨#[98]⟩ u1, .str ⟨#[99]⟩ u2]) FF NN (List.forall_mem_cons.mpr ⟨.head _, List.forall_mem_cons.mpr ⟨.tail _ (.head _), List.forall_mem_nil _⟩⟩) (List.forall_mem_cons.mpr ⟨if_pos rfl, List.forall_mem_nil _⟩) (fun z h1 _ => if_neg (h1 _ (.head _))) ⟨texts3 (u3 := u3) hlen, Nat.ne_of_lt (And.left (by assumption))⟩
    · obtain ⟨refs, hDl, hrl, _⟩ := id hD
      have hsz : refs.toArray.size = 4 := by rw [List.size_toArray, hrl, hlen]
      (repeat' ((fail_if_success (with_reducible show wpAny _ _ (exec (Stmt.For _ _ _ _ _) _) _ _ _)); (fail_if_success (with_reducible show wpAny _ _ (pyIter _) _ _ _)); (fail_if_success (with_reducible show wpAny _ _ (subscriptTail (PySem.Expr.Name (Str.ofString "rows") _) _ _ _) _ _ _)); (fail_if_success (with_reducible show wpAny _ _ (subscriptTail (PySem.Expr.Name (Str.ofString "row") _) _ _ _) _ _ _)); (fail_if_success (with_reducible show wpAny _ _ (PySem.call (Value.builtin "list.append") _) _ _ _)); (fail_if_success (with_reducible show wpAny _ _ (PySem.call (Value.type "list") _) _ _ _)); (fail_if_success (with_reducible show wpAny _ _ (PySem.setItem _ _ _) _ _ _)); (fail_if_success (with_reducible show wpAny _ _ (execs (Stmt.Assign [PySem.Expr.Subscript _ _ _] _ _ :: _) _) _ _ _)); (fail_if_success (with_reducible show UnrEnd _ _ _ _ _ _ _)); (fail_if_success (with_reducible show wpAny _ _ (newList []) _ _ _)); (fail_if_success (with_reducible show wpAny _ _ (execs (Stmt.If (PySem.Expr.Compare (PySem.Expr.Name (Str.ofString "k") _) _ _ _) _ _ _ :: _) _) _ _ _)); (fail_if_success (with_reducible show InvEndN _ _ _ _ _ _ _)); first | ((with_reducible show wpAny _ _ (subscriptTail (PySem.Expr.Name (Str.ofString "ways") _) _ (Value.ref _) (Value.int _ _)) _ _ _); refine item_way (by assumption) (by assumption) (by first | assumption | omega) (by first | assumption | omega) (by first | assumption | omega) ?_; intro _ _ _ _ _) | ((with_reducible show wpAny _ _ (subscriptTail (PySem.Expr.Subscript _ _ _) _ (Value.ref _) (Value.int _ _)) _ _ _); refine tup_at (by first | assumption | exact IsTup.keeps (by assumption) (Fr.keep (by assumption))) (by decide) (by decide) rfl ?_) | (k_unfold; (try dsimp only)) | walk1 | (dsimp only; walk1) | (leave1; try dsimp only)))
      rename Fr g L' _ _ => FF
      rename News g L' _ _ => NN
      refine call_list_str rfl _ _ (fun h2 tk2 acc2 c2 hk2 hS2 hI2 => ?_) (by decide)
      have F2 := FF.keeps hk2
      have N2 := news_pushed FF NN hk2 hS2 rfl
      obtain ⟨u0, u1, u2, u3, rfl⟩ := abcd_items hI2
      clear NN FF hk2 hS2 hI2
      (repeat' ((fail_if_success (with_reducible show wpAny _ _ (exec (Stmt.For _ _ _ _ _) _) _ _ _)); (fail_if_success (with_reducible show wpAny _ _ (pyIter _) _ _ _)); (fail_if_success (with_reducible show wpAny _ _ (subscriptTail (PySem.Expr.Name (Str.ofString "rows") _) _ _ _) _ _ _)); (fail_if_success (with_reducible show wpAny _ _ (subscriptTail (PySem.Expr.Name (Str.ofString "row") _) _ _ _) _ _ _)); (fail_if_success (with_reducible show wpAny _ _ (PySem.call (Value.builtin "list.append") _) _ _ _)); (fail_if_success (with_reducible show wpAny _ _ (PySem.call (Value.type "list") _) _ _ _)); (fail_if_success (with_reducible show wpAny _ _ (PySem.setItem _ _ _) _ _ _)); (fail_if_success (with_reducible show wpAny _ _ (execs (Stmt.Assign [PySem.Expr.Subscript _ _ _] _ _ :: _) _) _ _ _)); (fail_if_success (with_reducible show UnrEnd _ _ _ _ _ _ _)); (fail_if_success (with_reducible show wpAny _ _ (newList []) _ _ _)); (fail_if_success (with_reducible show wpAny _ _ (execs (Stmt.If (PySem.Expr.Compare (PySem.Expr.Name (Str.ofString "k") _) _ _ _) _ _ _ :: _) _) _ _ _)); (fail_if_success (with_reducible show InvEndN _ _ _ _ _ _ _)); first | ((with_reducible show wpAny _ _ (subscriptTail (PySem.Expr.Name (Str.ofString "ways") _) _ (Value.ref _) (Value.int _ _)) _ _ _); refine item_way (by assumption) (by assumption) (by first | assumption | omega) (by first | assumption | omega) (by first | assumption | omega) ?_; intro _ _ _ _ _) | ((with_reducible show wpAny _ _ (subscriptTail (PySem.Expr.Subscript _ _ _) _ (Value.ref _) (Value.int _ _)) _ _ _); refine tup_at (by first | assumption | exact IsTup.keeps (by assumption) (Fr.keep (by assumption))) (by decide) (by decide) rfl ?_) | (k_unfold; (try dsimp only)) | walk1 | (dsimp only; walk1) | (leave1; try dsimp only)))
      rename Fr g L' _ _ => FF
      rename News g L' _ _ => NN
      simp only [hsz] at NN
      with_unfolding_all exact Hand.mk (_, _, _, _, [.str ⟨#[97]⟩ u0, .str ⟨#[98]⟩ u1, .str ⟨#[99]⟩ u2, .str ⟨#[100]⟩ u3]) FF NN (List.forall_mem_cons.mpr ⟨.head _, List.forall_mem_cons.mpr ⟨.tail _ (.head _), List.forall_mem_nil _⟩⟩) (List.forall_mem_cons.mpr ⟨if_pos rfl, List.forall_mem_nil _⟩) (fun z h1 _ => if_neg (h1 _ (.head _))) ⟨texts4 (u3 := u3) hlen, Nat.ne_of_lt (And.left (by assumption))⟩

  · rintro ⟨RL, R0, kT, k0, us0⟩ u h2 tk2 hd F2 N2
    clear F' N'
    dsimp only at F2 N2 hd
    dsimp only [kstB] at F2
    (try dsimp only); (try k_fold)
    change Fr g L' _ _ at F2
    change News g L' _ _ at N2
    rename Fr g L' _ _ => FF
    obtain ⟨refs, hDl, hrl, _⟩ := id hD
    have hsz : refs.toArray.size = ws.length := by rw [List.size_toArray, hrl]
    have hle : ws.length ≤ 60 := by omega
    clear hlen
    refine wpAny_execs_cons ?_
    with_unfolding_all refine' For_invVF FF ?k1 ?k2 ?_
    case k1 => exact rfl
    case k2 => exact rfl
    (repeat' ((fail_if_success (with_reducible show wpAny _ _ (exec (Stmt.For _ _ _ _ _) _) _ _ _)); (fail_if_success (with_reducible show wpAny _ _ (pyIter _) _ _ _)); (fail_if_success (with_reducible show wpAny _ _ (subscriptTail (PySem.Expr.Name (Str.ofString "rows") _) _ _ _) _ _ _)); (fail_if_success (with_reducible show wpAny _ _ (subscriptTail (PySem.Expr.Name (Str.ofString "row") _) _ _ _) _ _ _)); (fail_if_success (with_reducible show wpAny _ _ (PySem.call (Value.builtin "list.append") _) _ _ _)); (fail_if_success (with_reducible show wpAny _ _ (PySem.call (Value.type "list") _) _ _ _)); (fail_if_success (with_reducible show wpAny _ _ (PySem.setItem _ _ _) _ _ _)); (fail_if_success (with_reducible show wpAny _ _ (execs (Stmt.Assign [PySem.Expr.Subscript _ _ _] _ _ :: _) _) _ _ _)); (fail_if_success (with_reducible show UnrEnd _ _ _ _ _ _ _)); (fail_if_success (with_reducible show wpAny _ _ (newList []) _ _ _)); (fail_if_success (with_reducible show wpAny _ _ (execs (Stmt.If (PySem.Expr.Compare (PySem.Expr.Name (Str.ofString "k") _) _ _ _) _ _ _ :: _) _) _ _ _)); (fail_if_success (with_reducible show InvEndN _ _ _ _ _ _ _)); first | ((with_reducible show wpAny _ _ (subscriptTail (PySem.Expr.Name (Str.ofString "ways") _) _ (Value.ref _) (Value.int _ _)) _ _ _); refine item_way (by assumption) (by assumption) (by first | assumption | omega) (by first | assumption | omega) (by first | assumption | omega) ?_; intro _ _ _ _ _) | ((with_reducible show wpAny _ _ (subscriptTail (PySem.Expr.Subscript _ _ _) _ (Value.ref _) (Value.int _ _)) _ _ _); refine tup_at (by first | assumption | exact IsTup.keeps (by assumption) (Fr.keep (by assumption))) (by decide) (by decide) rfl ?_) | (k_unfold; (try dsimp only)) | walk1 | (dsimp only; walk1) | (leave1; try dsimp only)))
    have hlen := hgw.len
    rename Fr g L' _ _ => FF
    rename News g L' _ _ => NN
    rename IsRange _ _ _ _ _ _ _ _ => hRg
    clear hrl
    rw [hsz] at hRg
    refine iter_rangeUnr (n := ws.length) (by rfl) hRg (small_range (by omega) (by omega) (by omega) (by omega)) (by rw [rangeSize_nat]; omega) FF NN fun I l1 => range_ind (fun i m news => ∃ RL kT Rs ks us, RowsSt D ws RL kT Rs ks us i m news) ws.length ?_ ?_ ws.length 0 _ _ (Nat.zero_add _) ?_
    · intro i m news hi hJ t h tk F N
      obtain ⟨RL, kT, Rs, ks, us, hJ⟩ := hJ
      have h0 := hJ.way
      have h1 := hJ.row
      obtain rfl := hJ.led
      have hgi := hgw.at' i hi
      rw [show (0 : Int) + (i : Int) = i by omega] at F
      obtain ⟨u9, F'⟩ := Fr.norm [(Str.ofString "ways", .ref D), (Str.ofString "rows", .ref RL), (Str.ofString "k", .int (i : Int) t)] F (List.forall_mem_cons.mpr ⟨(if_neg (show ¬ Str.ofString "ways" = Str.ofString "k" by decide)).trans h0, List.forall_mem_cons.mpr ⟨(if_neg (show ¬ Str.ofString "rows" = Str.ofString "k" by decide)).trans h1, List.forall_mem_cons.mpr ⟨if_pos rfl, List.forall_mem_nil _⟩⟩⟩)
      clear F hRg FF NN
      dsimp only [kstB] at F'
      (try dsimp only); (try k_fold)
      (repeat' ((fail_if_success (with_reducible show wpAny _ _ (exec (Stmt.For _ _ _ _ _) _) _ _ _)); (fail_if_success (with_reducible show wpAny _ _ (pyIter _) _ _ _)); (fail_if_success (with_reducible show wpAny _ _ (subscriptTail (PySem.Expr.Name (Str.ofString "rows") _) _ _ _) _ _ _)); (fail_if_success (with_reducible show wpAny _ _ (subscriptTail (PySem.Expr.Name (Str.ofString "row") _) _ _ _) _ _ _)); (fail_if_success (with_reducible show wpAny _ _ (PySem.call (Value.builtin "list.append") _) _ _ _)); (fail_if_success (with_reducible show wpAny _ _ (PySem.call (Value.type "list") _) _ _ _)); (fail_if_success (with_reducible show wpAny _ _ (PySem.setItem _ _ _) _ _ _)); (fail_if_success (with_reducible show wpAny _ _ (execs (Stmt.Assign [PySem.Expr.Subscript _ _ _] _ _ :: _) _) _ _ _)); (fail_if_success (with_reducible show UnrEnd _ _ _ _ _ _ _)); (fail_if_success (with_reducible show wpAny _ _ (newList []) _ _ _)); (fail_if_success (with_reducible show wpAny _ _ (execs (Stmt.If (PySem.Expr.Compare (PySem.Expr.Name (Str.ofString "k") _) _ _ _) _ _ _ :: _) _) _ _ _)); (fail_if_success (with_reducible show InvEndN _ _ _ _ _ _ _)); first | ((with_reducible show wpAny _ _ (subscriptTail (PySem.Expr.Name (Str.ofString "ways") _) _ (Value.ref _) (Value.int _ _)) _ _ _); refine item_way (by assumption) (by assumption) (by first | assumption | omega) (by first | assumption | omega) (by first | assumption | omega) ?_; intro _ _ _ _ _) | ((with_reducible show wpAny _ _ (subscriptTail (PySem.Expr.Subscript _ _ _) _ (Value.ref _) (Value.int _ _)) _ _ _); refine tup_at (by first | assumption | exact IsTup.keeps (by assumption) (Fr.keep (by assumption))) (by decide) (by decide) rfl ?_) | (k_unfold; (try dsimp only)) | walk1 | (dsimp only; walk1) | (leave1; try dsimp only)))
      rename Fr g L' _ _ => FF
      rename News g L' _ _ => NN
      have e0 : ((i : Int)).toNat = i := by omega
      rw [e0]
      have hR := hJ.lenR
      have hk := hJ.lenk
      have hu := hJ.lenu
      have htx := hJ.txt
      refine row_item NN (.tail _ (.head _)) (by omega) (by omega) (by omega) ?_
      (repeat' ((fail_if_success (with_reducible show wpAny _ _ (exec (Stmt.For _ _ _ _ _) _) _ _ _)); (fail_if_success (with_reducible show wpAny _ _ (pyIter _) _ _ _)); (fail_if_success (with_reducible show wpAny _ _ (subscriptTail (PySem.Expr.Name (Str.ofString "rows") _) _ _ _) _ _ _)); (fail_if_success (with_reducible show wpAny _ _ (subscriptTail (PySem.Expr.Name (Str.ofString "row") _) _ _ _) _ _ _)); (fail_if_success (with_reducible show wpAny _ _ (PySem.call (Value.builtin "list.append") _) _ _ _)); (fail_if_success (with_reducible show wpAny _ _ (PySem.call (Value.type "list") _) _ _ _)); (fail_if_success (with_reducible show wpAny _ _ (PySem.setItem _ _ _) _ _ _)); (fail_if_success (with_reducible show wpAny _ _ (execs (Stmt.Assign [PySem.Expr.Subscript _ _ _] _ _ :: _) _) _ _ _)); (fail_if_success (with_reducible show UnrEnd _ _ _ _ _ _ _)); (fail_if_success (with_reducible show wpAny _ _ (newList []) _ _ _)); (fail_if_success (with_reducible show wpAny _ _ (execs (Stmt.If (PySem.Expr.Compare (PySem.Expr.Name (Str.ofString "k") _) _ _ _) _ _ _ :: _) _) _ _ _)); (fail_if_success (with_reducible show InvEndN _ _ _ _ _ _ _)); first | ((with_reducible show wpAny _ _ (subscriptTail (PySem.Expr.Name (Str.ofString "ways") _) _ (Value.ref _) (Value.int _ _)) _ _ _); refine item_way (by assumption) (by assumption) (by first | assumption | omega) (by first | assumption | omega) (by first | assumption | omega) ?_; intro _ _ _ _ _) | ((with_reducible show wpAny _ _ (subscriptTail (PySem.Expr.Subscript _ _ _) _ (Value.ref _) (Value.int _ _)) _ _ _); refine tup_at (by first | assumption | exact IsTup.keeps (by assumption) (Fr.keep (by assumption))) (by decide) (by decide) rfl ?_) | (k_unfold; (try dsimp only)) | walk1 | (dsimp only; walk1) | (leave1; try dsimp only)))
      rename Fr g L' _ _ => FF
      rename News g L' _ _ => NN
      obtain ⟨b, hb⟩ : ∃ b, b = (ws.getD i (0, 0, 0)).1.toNat := ⟨_, rfl⟩
      rw [← hb]
      have hbi : b ≤ i := by omega
      have hT := htx b hbi
      have hul : (us.getD b []).length = ws.length := by
        have hlt : b < (rowsN ws i).length := by rw [rowsN_len]; omega
        rw [hT.1]
        refine rowsN_row hgw i (by omega) _ ?_
        rw [List.getD_eq_getElem?_getD, List.getElem?_eq_getElem hlt]
        exact List.getElem_mem _
      refine kup_listOf FF NN (zs := us.getD b []) (.tail _ (.tail _ (rowsLed_mem (by omega) (by omega) (by omega)))) (List.toList_toArray) (fun Dn cN h3 F3 N3 l3 => ?_) (by rw [List.toList_toArray, hul, PySem.sizeLine_eq]; omega)
      clear FF NN
      (repeat' ((fail_if_success (with_reducible show wpAny _ _ (exec (Stmt.For _ _ _ _ _) _) _ _ _)); (fail_if_success (with_reducible show wpAny _ _ (pyIter _) _ _ _)); (fail_if_success (with_reducible show wpAny _ _ (subscriptTail (PySem.Expr.Name (Str.ofString "rows") _) _ _ _) _ _ _)); (fail_if_success (with_reducible show wpAny _ _ (subscriptTail (PySem.Expr.Name (Str.ofString "row") _) _ _ _) _ _ _)); (fail_if_success (with_reducible show wpAny _ _ (PySem.call (Value.builtin "list.append") _) _ _ _)); (fail_if_success (with_reducible show wpAny _ _ (PySem.call (Value.type "list") _) _ _ _)); (fail_if_success (with_reducible show wpAny _ _ (PySem.setItem _ _ _) _ _ _)); (fail_if_success (with_reducible show wpAny _ _ (execs (Stmt.Assign [PySem.Expr.Subscript _ _ _] _ _ :: _) _) _ _ _)); (fail_if_success (with_reducible show UnrEnd _ _ _ _ _ _ _)); (fail_if_success (with_reducible show wpAny _ _ (newList []) _ _ _)); (fail_if_success (with_reducible show wpAny _ _ (execs (Stmt.If (PySem.Expr.Compare (PySem.Expr.Name (Str.ofString "k") _) _ _ _) _ _ _ :: _) _) _ _ _)); (fail_if_success (with_reducible show InvEndN _ _ _ _ _ _ _)); first | ((with_reducible show wpAny _ _ (subscriptTail (PySem.Expr.Name (Str.ofString "ways") _) _ (Value.ref _) (Value.int _ _)) _ _ _); refine item_way (by assumption) (by assumption) (by first | assumption | omega) (by first | assumption | omega) (by first | assumption | omega) ?_; intro _ _ _ _ _) | ((with_reducible show wpAny _ _ (subscriptTail (PySem.Expr.Subscript _ _ _) _ (Value.ref _) (Value.int _ _)) _ _ _); refine tup_at (by first | assumption | exact IsTup.keeps (by assumption) (Fr.keep (by assumption))) (by decide) (by decide) rfl ?_) | (k_unfold; (try dsimp only)) | walk1 | (dsimp only; walk1) | (leave1; try dsimp only)))
      rename Fr g L' _ _ => FF
      rename News g L' _ _ => NN
      have hDR : ∀ p ∈ rowsLed Rs ks us, p.1 ≠ Dn := fun p hp => Nat.ne_of_lt (l3 p (.tail _ (.tail _ hp)))
      have hDI : I ≠ Dn := Nat.ne_of_lt (l3 _ (.head _))
      have hDL : RL ≠ Dn := Nat.ne_of_lt (l3 _ (.tail _ (.head _)))
      have hoff := hJ.off
      obtain ⟨tail, htail⟩ : ∃ tail, tail = rowsLed Rs ks us := ⟨_, rfl⟩
      obtain ⟨lw, hlw⟩ : ∃ lw, lw = (ws.getD i (0, 0, 0)).2.1 := ⟨_, rfl⟩
      obtain ⟨itI, hitI⟩ : ∃ itI, itI = itR ((0 : Int) + ((i + 1 : Nat) : Int)) ((ws.length : Int) - ((i + 1 : Nat) : Int)) := ⟨_, rfl⟩
      rw [← htail, ← hitI] at NN
      rw [← htail] at hDR hoff
      rw [← hitI]
      have hIL : I ≠ RL := News.neObj NN (.tail _ (.head _)) (.tail _ (.tail _ (.head _))) (by rw [hitI]; exact it_ne_list)
      have hIR : ∀ p ∈ tail, p.1 ≠ I := fun p hp => by
        obtain ⟨u, k, e⟩ := rowsLed_like p (htail ▸ hp)
        exact News.ne2 NN NN (p := p) (q := (I, itI)) (.tail _ (.tail _ (.tail _ hp))) (.tail _ (.head _)) (by rw [e, hitI]; exact Ne.symm it_ne_list)
      clear l3 hJ
      have hlw2 : lw = (ws.getD ((i : Int)).toNat (0, 0, 0)).2.1 := by rw [e0]; exact hlw
      refine cutF (σ := List Value) (fun c => (Dn, listOf c.toArray cN) :: (I, itI) :: (RL, listOf (Rs.map Value.ref).toArray kT) :: tail) (fun _ => []) [] (fun c => ∃ t, c = (us.getD b []).set i (.str ⟨#[letC i lw]⟩ t)) FF NN ?_ ?_
      · (repeat' ((fail_if_success (with_reducible show wpAny _ _ (exec (Stmt.For _ _ _ _ _) _) _ _ _)); (fail_if_success (with_reducible show wpAny _ _ (pyIter _) _ _ _)); (fail_if_success (with_reducible show wpAny _ _ (subscriptTail (PySem.Expr.Name (Str.ofString "rows") _) _ _ _) _ _ _)); (fail_if_success (with_reducible show wpAny _ _ (subscriptTail (PySem.Expr.Name (Str.ofString "row") _) _ _ _) _ _ _)); (fail_if_success (with_reducible show wpAny _ _ (PySem.call (Value.builtin "list.append") _) _ _ _)); (fail_if_success (with_reducible show wpAny _ _ (PySem.call (Value.type "list") _) _ _ _)); (fail_if_success (with_reducible show wpAny _ _ (PySem.setItem _ _ _) _ _ _)); (fail_if_success (with_reducible show wpAny _ _ (execs (Stmt.Assign [PySem.Expr.Subscript _ _ _] _ _ :: _) _) _ _ _)); (fail_if_success (with_reducible show UnrEnd _ _ _ _ _ _ _)); (fail_if_success (with_reducible show wpAny _ _ (newList []) _ _ _)); (fail_if_success (with_reducible show wpAny _ _ (execs (Stmt.If (PySem.Expr.Compare (PySem.Expr.Name (Str.ofString "k") _) _ _ _) _ _ _ :: _) _) _ _ _)); (fail_if_success (with_reducible show InvEndN _ _ _ _ _ _ _)); first | ((with_reducible show wpAny _ _ (subscriptTail (PySem.Expr.Name (Str.ofString "ways") _) _ (Value.ref _) (Value.int _ _)) _ _ _); refine item_way (by assumption) (by assumption) (by first | assumption | omega) (by first | assumption | omega) (by first | assumption | omega) ?_; intro _ _ _ _ _) | ((with_reducible show wpAny _ _ (subscriptTail (PySem.Expr.Subscript _ _ _) _ (Value.ref _) (Value.int _ _)) _ _ _); refine tup_at (by first | assumption | exact IsTup.keeps (by assumption) (Fr.keep (by assumption))) (by decide) (by decide) rfl ?_) | (k_unfold; (try dsimp only)) | walk1 | (dsimp only; walk1) | (leave1; try dsimp only)))
        · rename Fr g L' _ _ => FF
          rename News g L' _ _ => NN
          refine list_set FF NN (List.forall_mem_cons.mpr ⟨hDI, List.forall_mem_cons.mpr ⟨hDL, hDR⟩⟩) (by omega) (by omega) (by omega) (fun h6 F6 N6 => ?_)
          exact Hand.mk _ F6 N6 (fun p hp => hp) (List.forall_mem_nil _) (fun _ _ _ => rfl) ⟨_, by rw [e0, item_abcd (by omega), letC, if_pos (by omega)]⟩
        · rename Fr g L' _ _ => FF
          rename News g L' _ _ => NN
          refine list_set FF NN (List.forall_mem_cons.mpr ⟨hDI, List.forall_mem_cons.mpr ⟨hDL, hDR⟩⟩) (by omega) (by omega) (by omega) (fun h6 F6 N6 => ?_)
          exact Hand.mk _ F6 N6 (fun p hp => hp) (List.forall_mem_nil _) (fun _ _ _ => rfl) ⟨_, by rw [e0, item_1234 (by omega), letC, if_neg (by omega)]⟩
      · intro c u7 h7 tk7 hc F7 N7
        obtain ⟨t7, rfl⟩ := hc
        clear FF NN
        dsimp only [kstB] at F7
        obtain ⟨u8, F8⟩ := Fr.norm [(Str.ofString "ways", .ref D), (Str.ofString "rows", .ref RL), (Str.ofString "k", .int (i : Int) t), (Str.ofString "row", .ref Dn)] F7 (List.forall_mem_cons.mpr ⟨rfl, List.forall_mem_cons.mpr ⟨rfl, List.forall_mem_cons.mpr ⟨rfl, List.forall_mem_cons.mpr ⟨rfl, List.forall_mem_nil _⟩⟩⟩⟩)
        clear F7
        dsimp only [kstB] at F8
        (try dsimp only); (try k_fold)
        (repeat' ((fail_if_success (with_reducible show wpAny _ _ (exec (Stmt.For _ _ _ _ _) _) _ _ _)); (fail_if_success (with_reducible show wpAny _ _ (pyIter _) _ _ _)); (fail_if_success (with_reducible show wpAny _ _ (subscriptTail (PySem.Expr.Name (Str.ofString "rows") _) _ _ _) _ _ _)); (fail_if_success (with_reducible show wpAny _ _ (subscriptTail (PySem.Expr.Name (Str.ofString "row") _) _ _ _) _ _ _)); (fail_if_success (with_reducible show wpAny _ _ (PySem.call (Value.builtin "list.append") _) _ _ _)); (fail_if_success (with_reducible show wpAny _ _ (PySem.call (Value.type "list") _) _ _ _)); (fail_if_success (with_reducible show wpAny _ _ (PySem.setItem _ _ _) _ _ _)); (fail_if_success (with_reducible show wpAny _ _ (execs (Stmt.Assign [PySem.Expr.Subscript _ _ _] _ _ :: _) _) _ _ _)); (fail_if_success (with_reducible show UnrEnd _ _ _ _ _ _ _)); (fail_if_success (with_reducible show wpAny _ _ (newList []) _ _ _)); (fail_if_success (with_reducible show wpAny _ _ (execs (Stmt.If (PySem.Expr.Compare (PySem.Expr.Name (Str.ofString "k") _) _ _ _) _ _ _ :: _) _) _ _ _)); (fail_if_success (with_reducible show InvEndN _ _ _ _ _ _ _)); first | ((with_reducible show wpAny _ _ (subscriptTail (PySem.Expr.Name (Str.ofString "ways") _) _ (Value.ref _) (Value.int _ _)) _ _ _); refine item_way (by assumption) (by assumption) (by first | assumption | omega) (by first | assumption | omega) (by first | assumption | omega) ?_; intro _ _ _ _ _) | ((with_reducible show wpAny _ _ (subscriptTail (PySem.Expr.Subscript _ _ _) _ (Value.ref _) (Value.int _ _)) _ _ _); refine tup_at (by first | assumption | exact IsTup.keeps (by assumption) (Fr.keep (by assumption))) (by decide) (by decide) rfl ?_) | (k_unfold; (try dsimp only)) | walk1 | (dsimp only; walk1) | (leave1; try dsimp only)))
        rename Fr g L' _ _ => FF
        rename News g L' _ _ => NN
        refine append_K FF NN (Upd.tail (Ne.symm hDL) (Upd.tail hIL (Upd.head hoff))) (fun h9 F9 N9 => ?_) (by rw [List.size_toArray, List.length_map, PySem.sizeLine_eq]; omega)
        clear FF NN
        (repeat' ((fail_if_success (with_reducible show wpAny _ _ (exec (Stmt.For _ _ _ _ _) _) _ _ _)); (fail_if_success (with_reducible show wpAny _ _ (pyIter _) _ _ _)); (fail_if_success (with_reducible show wpAny _ _ (subscriptTail (PySem.Expr.Name (Str.ofString "rows") _) _ _ _) _ _ _)); (fail_if_success (with_reducible show wpAny _ _ (subscriptTail (PySem.Expr.Name (Str.ofString "row") _) _ _ _) _ _ _)); (fail_if_success (with_reducible show wpAny _ _ (PySem.call (Value.builtin "list.append") _) _ _ _)); (fail_if_success (with_reducible show wpAny _ _ (PySem.call (Value.type "list") _) _ _ _)); (fail_if_success (with_reducible show wpAny _ _ (PySem.setItem _ _ _) _ _ _)); (fail_if_success (with_reducible show wpAny _ _ (execs (Stmt.Assign [PySem.Expr.Subscript _ _ _] _ _ :: _) _) _ _ _)); (fail_if_success (with_reducible show UnrEnd _ _ _ _ _ _ _)); (fail_if_success (with_reducible show wpAny _ _ (newList []) _ _ _)); (fail_if_success (with_reducible show wpAny _ _ (execs (Stmt.If (PySem.Expr.Compare (PySem.Expr.Name (Str.ofString "k") _) _ _ _) _ _ _ :: _) _) _ _ _)); (fail_if_success (with_reducible show InvEndN _ _ _ _ _ _ _)); first | ((with_reducible show wpAny _ _ (subscriptTail (PySem.Expr.Name (Str.ofString "ways") _) _ (Value.ref _) (Value.int _ _)) _ _ _); refine item_way (by assumption) (by assumption) (by first | assumption | omega) (by first | assumption | omega) (by first | assumption | omega) ?_; intro _ _ _ _ _) | ((with_reducible show wpAny _ _ (subscriptTail (PySem.Expr.Subscript _ _ _) _ (Value.ref _) (Value.int _ _)) _ _ _); refine tup_at (by first | assumption | exact IsTup.keeps (by assumption) (Fr.keep (by assumption))) (by decide) (by decide) rfl ?_) | (k_unfold; (try dsimp only)) | walk1 | (dsimp only; walk1) | (leave1; try dsimp only)))
        rename Fr g L' _ _ => FF
        rename News g L' _ _ => NN
        have hsn := rowsLed_snoc (R := Dn) (k := cN) (u := (us.getD b []).set i (.str ⟨#[letC i lw]⟩ t7)) (show ks.length = Rs.length by omega) (show us.length = Rs.length by omega)
        refine UnrEnd.intro FF NN ((RL, listOf ((Rs ++ [Dn]).map Value.ref).toArray (kT + 1)) :: rowsLed (Rs ++ [Dn]) (ks ++ [cN]) (us ++ [(us.getD b []).set i (.str ⟨#[letC i lw]⟩ t7)])) ?_ ?_ ⟨RL, kT + 1, Rs ++ [Dn], ks ++ [cN], us ++ [(us.getD b []).set i (.str ⟨#[letC i lw]⟩ t7)], ?_⟩
        · rw [hsn, ← htail]
          intro p hp
          rcases List.mem_cons.mp hp with rfl | hp
          · exact .tail _ (.head _)
          · rcases List.mem_cons.mp hp with rfl | hp
            · rw [List.map_append, show (Rs.map Value.ref ++ [Dn].map Value.ref).toArray = (Rs.map Value.ref).toArray.push (.ref Dn) by simp]
              exact .tail _ (.tail _ (.head _))
            · rcases List.mem_append.mp hp with hp | hp
              · exact .tail _ (.tail _ (.tail _ hp))
              · obtain rfl := List.mem_singleton.mp hp
                exact .head _
        · rw [hsn, ← htail]
          refine List.forall_mem_cons.mpr ⟨Ne.symm hIL, fun p hp => ?_⟩
          rcases List.mem_append.mp hp with hp | hp
          · exact hIR p hp
          · obtain rfl := List.mem_singleton.mp hp
            exact Ne.symm hDI
        · refine ⟨rfl, rfl, rfl, ?_, by rw [List.length_append, hR]; rfl, by rw [List.length_append, hk]; rfl, by rw [List.length_append, hu]; rfl, ?_⟩
          · rw [hsn, ← htail]
            intro p hp
            rcases List.mem_append.mp hp with hp | hp
            · exact hoff p hp
            · obtain rfl := List.mem_singleton.mp hp
              exact Ne.symm hDL
          · intro j hj
            show TextsAre _ ((rowsN ws i ++ [((rowsN ws i).getD (ws.getD i (0, 0, 0)).1.toNat []).set i (letC i (ws.getD i (0, 0, 0)).2.1)]).getD j [])
            rw [← hb, ← hlw]
            have hnl := rowsN_len ws i
            by_cases hji : j ≤ i
            · rw [getD_left (by omega), getD_left (by omega)]
              exact htx j hji
            · obtain rfl : j = i + 1 := by omega
              rw [getD_last (by omega), getD_last (by omega)]
              exact hT.set
    · intro m news hJ h tk F N
      obtain ⟨RL, kT, Rs, ks, us, hJ⟩ := hJ
      have h0 := hJ.way
      have h1 := hJ.row
      obtain rfl := hJ.led
      obtain ⟨u9, F'⟩ := Fr.norm [(Str.ofString "ways", .ref D), (Str.ofString "rows", .ref RL)] F (List.forall_mem_cons.mpr ⟨h0, List.forall_mem_cons.mpr ⟨h1, List.forall_mem_nil _⟩⟩)
      clear F hRg FF NN
      dsimp only [kstB] at F'
      (try dsimp only); (try k_fold)
      (repeat' ((fail_if_success (with_reducible show wpAny _ _ (exec (Stmt.For _ _ _ _ _) _) _ _ _)); (fail_if_success (with_reducible show wpAny _ _ (pyIter _) _ _ _)); (fail_if_success (with_reducible show wpAny _ _ (subscriptTail (PySem.Expr.Name (Str.ofString "rows") _) _ _ _) _ _ _)); (fail_if_success (with_reducible show wpAny _ _ (subscriptTail (PySem.Expr.Name (Str.ofString "row") _) _ _ _) _ _ _)); (fail_if_success (with_reducible show wpAny _ _ (PySem.call (Value.builtin "list.append") _) _ _ _)); (fail_if_success (with_reducible show wpAny _ _ (PySem.call (Value.type "list") _) _ _ _)); (fail_if_success (with_reducible show wpAny _ _ (PySem.setItem _ _ _) _ _ _)); (fail_if_success (with_reducible show wpAny _ _ (execs (Stmt.Assign [PySem.Expr.Subscript _ _ _] _ _ :: _) _) _ _ _)); (fail_if_success (with_reducible show UnrEnd _ _ _ _ _ _ _)); (fail_if_success (with_reducible show wpAny _ _ (newList []) _ _ _)); (fail_if_success (with_reducible show wpAny _ _ (execs (Stmt.If (PySem.Expr.Compare (PySem.Expr.Name (Str.ofString "k") _) _ _ _) _ _ _ :: _) _) _ _ _)); (fail_if_success (with_reducible show InvEndN _ _ _ _ _ _ _)); first | ((with_reducible show wpAny _ _ (subscriptTail (PySem.Expr.Name (Str.ofString "ways") _) _ (Value.ref _) (Value.int _ _)) _ _ _); refine item_way (by assumption) (by assumption) (by first | assumption | omega) (by first | assumption | omega) (by first | assumption | omega) ?_; intro _ _ _ _ _) | ((with_reducible show wpAny _ _ (subscriptTail (PySem.Expr.Subscript _ _ _) _ (Value.ref _) (Value.int _ _)) _ _ _); refine tup_at (by first | assumption | exact IsTup.keeps (by assumption) (Fr.keep (by assumption))) (by decide) (by decide) rfl ?_) | (k_unfold; (try dsimp only)) | walk1 | (dsimp only; walk1) | (leave1; try dsimp only)))
      rename Fr g L' _ _ => FF
      rename News g L' _ _ => NN
      have hoff := hJ.off
      have hRl := hJ.lenR
      have hkl := hJ.lenk
      have hul := hJ.lenu
      have htx := hJ.txt
      obtain ⟨tail, htail⟩ : ∃ tail, tail = (RL, listOf (Rs.map Value.ref).toArray kT) :: rowsLed Rs ks us := ⟨_, rfl⟩
      rw [← htail] at NN
      have htm : ∀ p ∈ tail, ∃ u k, p.2 = listOf u k := by
        rw [htail]
        exact List.forall_mem_cons.mpr ⟨⟨_, _, rfl⟩, fun p hp => rowsLed_like p hp⟩
      clear hJ
      refine newList_K FF NN (fun W h9 F9 N9 l9 => ?_) (by decide)
      have hWt : ∀ p ∈ tail, p.1 ≠ W := fun p hp => Nat.ne_of_lt (l9 p hp)
      clear l9 FF NN l1 h0 h1
      (repeat' ((fail_if_success (with_reducible show wpAny _ _ (exec (Stmt.For _ _ _ _ _) _) _ _ _)); (fail_if_success (with_reducible show wpAny _ _ (pyIter _) _ _ _)); (fail_if_success (with_reducible show wpAny _ _ (subscriptTail (PySem.Expr.Name (Str.ofString "rows") _) _ _ _) _ _ _)); (fail_if_success (with_reducible show wpAny _ _ (subscriptTail (PySem.Expr.Name (Str.ofString "row") _) _ _ _) _ _ _)); (fail_if_success (with_reducible show wpAny _ _ (PySem.call (Value.builtin "list.append") _) _ _ _)); (fail_if_success (with_reducible show wpAny _ _ (PySem.call (Value.type "list") _) _ _ _)); (fail_if_success (with_reducible show wpAny _ _ (PySem.setItem _ _ _) _ _ _)); (fail_if_success (with_reducible show wpAny _ _ (execs (Stmt.Assign [PySem.Expr.Subscript _ _ _] _ _ :: _) _) _ _ _)); (fail_if_success (with_reducible show UnrEnd _ _ _ _ _ _ _)); (fail_if_success (with_reducible show wpAny _ _ (newList []) _ _ _)); (fail_if_success (with_reducible show wpAny _ _ (execs (Stmt.If (PySem.Expr.Compare (PySem.Expr.Name (Str.ofString "k") _) _ _ _) _ _ _ :: _) _) _ _ _)); (fail_if_success (with_reducible show InvEndN _ _ _ _ _ _ _)); first | ((with_reducible show wpAny _ _ (subscriptTail (PySem.Expr.Name (Str.ofString "ways") _) _ (Value.ref _) (Value.int _ _)) _ _ _); refine item_way (by assumption) (by assumption) (by first | assumption | omega) (by first | assumption | omega) (by first | assumption | omega) ?_; intro _ _ _ _ _) | ((with_reducible show wpAny _ _ (subscriptTail (PySem.Expr.Subscript _ _ _) _ (Value.ref _) (Value.int _ _)) _ _ _); refine tup_at (by first | assumption | exact IsTup.keeps (by assumption) (Fr.keep (by assumption))) (by decide) (by decide) rfl ?_) | (k_unfold; (try dsimp only)) | walk1 | (dsimp only; walk1) | (leave1; try dsimp only)))
      rename Fr g L' _ _ => FF
      rename News g L' _ _ => NN
      with_unfolding_all refine' For_invVF FF ?k1 ?k2 ?_
      case k1 => exact rfl
      case k2 => exact rfl
      (repeat' ((fail_if_success (with_reducible show wpAny _ _ (exec (Stmt.For _ _ _ _ _) _) _ _ _)); (fail_if_success (with_reducible show wpAny _ _ (pyIter _) _ _ _)); (fail_if_success (with_reducible show wpAny _ _ (subscriptTail (PySem.Expr.Name (Str.ofString "rows") _) _ _ _) _ _ _)); (fail_if_success (with_reducible show wpAny _ _ (subscriptTail (PySem.Expr.Name (Str.ofString "row") _) _ _ _) _ _ _)); (fail_if_success (with_reducible show wpAny _ _ (PySem.call (Value.builtin "list.append") _) _ _ _)); (fail_if_success (with_reducible show wpAny _ _ (PySem.call (Value.type "list") _) _ _ _)); (fail_if_success (with_reducible show wpAny _ _ (PySem.setItem _ _ _) _ _ _)); (fail_if_success (with_reducible show wpAny _ _ (execs (Stmt.Assign [PySem.Expr.Subscript _ _ _] _ _ :: _) _) _ _ _)); (fail_if_success (with_reducible show UnrEnd _ _ _ _ _ _ _)); (fail_if_success (with_reducible show wpAny _ _ (newList []) _ _ _)); (fail_if_success (with_reducible show wpAny _ _ (execs (Stmt.If (PySem.Expr.Compare (PySem.Expr.Name (Str.ofString "k") _) _ _ _) _ _ _ :: _) _) _ _ _)); (fail_if_success (with_reducible show InvEndN _ _ _ _ _ _ _)); first | ((with_reducible show wpAny _ _ (subscriptTail (PySem.Expr.Name (Str.ofString "ways") _) _ (Value.ref _) (Value.int _ _)) _ _ _); refine item_way (by assumption) (by assumption) (by first | assumption | omega) (by first | assumption | omega) (by first | assumption | omega) ?_; intro _ _ _ _ _) | ((with_reducible show wpAny _ _ (subscriptTail (PySem.Expr.Subscript _ _ _) _ (Value.ref _) (Value.int _ _)) _ _ _); refine tup_at (by first | assumption | exact IsTup.keeps (by assumption) (Fr.keep (by assumption))) (by decide) (by decide) rfl ?_) | (k_unfold; (try dsimp only)) | walk1 | (dsimp only; walk1) | (leave1; try dsimp only)))
      rename Fr g L' _ _ => FF
      rename News g L' _ _ => NN
      have hRm : ∀ nx : List (Addr × Obj), (∀ p ∈ tail, p ∈ nx) → (RL, listOf (Rs.map Value.ref).toArray kT) ∈ nx := fun nx hn => hn _ (by rw [htail]; exact .head _)
      refine iter_listUnr (vs := Rs.map Value.ref) rfl FF NN (hRm _ fun p hp => .tail _ hp) rfl rfl fun I l1 => list_ind (fun i m news => ∃ (wk : Nat) (wv : List Value), m (Str.ofString "ways") = some (.ref D) ∧ m (Str.ofString "words") = some (.ref W) ∧ news = (W, listOf wv.toArray wk) :: tail ∧ wv.length = i ∧ ∀ j, j < i → ∃ t, wv[j]? = some (.str (wordS ws j) t)) ?_ ?_ _ 0 _ _ rfl (by rw [Nat.zero_add]) ?_
      · intro i v m news hv hJ it h tk hit F N
        obtain ⟨wk, wv, h0, h1, rfl, hwl, hwv⟩ := hJ
        have hi : i < ws.length + 1 := by
          have := (List.getElem?_eq_some_iff.mp hv).1
          rw [List.length_map, hRl] at this
          exact this
        obtain rfl : v = .ref (Rs.getD i 0) := by
          rw [List.getElem?_map, List.getElem?_eq_getElem (by omega)] at hv
          rw [List.getD_eq_getElem?_getD, List.getElem?_eq_getElem (by omega)]
          exact (Option.some.inj hv).symm
        obtain ⟨R, hR⟩ : ∃ R, R = Rs.getD i 0 := ⟨_, rfl⟩
        obtain ⟨ur, hur⟩ : ∃ ur, ur = us.getD i [] := ⟨_, rfl⟩
        obtain ⟨kr, hkr⟩ : ∃ kr, kr = ks.getD i 0 := ⟨_, rfl⟩
        obtain ⟨cr, hcr⟩ : ∃ cr, cr = (rowsN ws ws.length).getD i [] := ⟨_, rfl⟩
        have hRin : (R, listOf ur.toArray kr) ∈ tail := by
          rw [htail, hR, hur, hkr]
          exact .tail _ (rowsLed_mem (by omega) (by omega) (by omega))
        have hT : TextsAre ur cr := by rw [hur, hcr]; exact htx i (by omega)
        have hcl : cr.length = ws.length := by
          have hlt : i < (rowsN ws ws.length).length := by rw [rowsN_len]; exact hi
          rw [hcr]
          refine rowsN_row hgw ws.length (Nat.le_refl _) _ ?_
          rw [List.getD_eq_getElem?_getD, List.getElem?_eq_getElem hlt]
          exact List.getElem_mem _
        rw [← hR] at F
        have hIt : ∀ p ∈ tail, p.1 ≠ I := fun p hp => Nat.ne_of_lt (l1 p (.tail _ hp))
        have hIW : I ≠ W := fun e => Nat.lt_irrefl _ (e ▸ l1 _ (.head _))
        obtain ⟨u9, F'⟩ := Fr.norm [(Str.ofString "ways", .ref D), (Str.ofString "words", .ref W), (Str.ofString "row", .ref R)] F (List.forall_mem_cons.mpr ⟨(if_neg (show ¬ Str.ofString "ways" = Str.ofString "row" by decide)).trans h0, List.forall_mem_cons.mpr ⟨(if_neg (show ¬ Str.ofString "words" = Str.ofString "row" by decide)).trans h1, List.forall_mem_cons.mpr ⟨if_pos rfl, List.forall_mem_nil _⟩⟩⟩)
        clear F FF NN
        dsimp only [kstB] at F'
        (try dsimp only); (try k_fold)
        (repeat' ((fail_if_success (with_reducible show wpAny _ _ (exec (Stmt.For _ _ _ _ _) _) _ _ _)); (fail_if_success (with_reducible show wpAny _ _ (pyIter _) _ _ _)); (fail_if_success (with_reducible show wpAny _ _ (subscriptTail (PySem.Expr.Name (Str.ofString "rows") _) _ _ _) _ _ _)); (fail_if_success (with_reducible show wpAny _ _ (subscriptTail (PySem.Expr.Name (Str.ofString "row") _) _ _ _) _ _ _)); (fail_if_success (with_reducible show wpAny _ _ (PySem.call (Value.builtin "list.append") _) _ _ _)); (fail_if_success (with_reducible show wpAny _ _ (PySem.call (Value.type "list") _) _ _ _)); (fail_if_success (with_reducible show wpAny _ _ (PySem.setItem _ _ _) _ _ _)); (fail_if_success (with_reducible show wpAny _ _ (execs (Stmt.Assign [PySem.Expr.Subscript _ _ _] _ _ :: _) _) _ _ _)); (fail_if_success (with_reducible show UnrEnd _ _ _ _ _ _ _)); (fail_if_success (with_reducible show wpAny _ _ (newList []) _ _ _)); (fail_if_success (with_reducible show wpAny _ _ (execs (Stmt.If (PySem.Expr.Compare (PySem.Expr.Name (Str.ofString "k") _) _ _ _) _ _ _ :: _) _) _ _ _)); (fail_if_success (with_reducible show InvEndN _ _ _ _ _ _ _)); first | ((with_reducible show wpAny _ _ (subscriptTail (PySem.Expr.Name (Str.ofString "ways") _) _ (Value.ref _) (Value.int _ _)) _ _ _); refine item_way (by assumption) (by assumption) (by first | assumption | omega) (by first | assumption | omega) (by first | assumption | omega) ?_; intro _ _ _ _ _) | ((with_reducible show wpAny _ _ (subscriptTail (PySem.Expr.Subscript _ _ _) _ (Value.ref _) (Value.int _ _)) _ _ _); refine tup_at (by first | assumption | exact IsTup.keeps (by assumption) (Fr.keep (by assumption))) (by decide) (by decide) rfl ?_) | (k_unfold; (try dsimp only)) | walk1 | (dsimp only; walk1) | (leave1; try dsimp only)))
        rename Fr g L' _ _ => FF
        rename News g L' _ _ => NN
        refine text_item NN (.tail _ (.tail _ hRin)) hT (by omega) (by omega) (by omega) fun tr => ?_
        (repeat' ((fail_if_success (with_reducible show wpAny _ _ (exec (Stmt.For _ _ _ _ _) _) _ _ _)); (fail_if_success (with_reducible show wpAny _ _ (pyIter _) _ _ _)); (fail_if_success (with_reducible show wpAny _ _ (subscriptTail (PySem.Expr.Name (Str.ofString "rows") _) _ _ _) _ _ _)); (fail_if_success (with_reducible show wpAny _ _ (subscriptTail (PySem.Expr.Name (Str.ofString "row") _) _ _ _) _ _ _)); (fail_if_success (with_reducible show wpAny _ _ (PySem.call (Value.builtin "list.append") _) _ _ _)); (fail_if_success (with_reducible show wpAny _ _ (PySem.call (Value.type "list") _) _ _ _)); (fail_if_success (with_reducible show wpAny _ _ (PySem.setItem _ _ _) _ _ _)); (fail_if_success (with_reducible show wpAny _ _ (execs (Stmt.Assign [PySem.Expr.Subscript _ _ _] _ _ :: _) _) _ _ _)); (fail_if_success (with_reducible show UnrEnd _ _ _ _ _ _ _)); (fail_if_success (with_reducible show wpAny _ _ (newList []) _ _ _)); (fail_if_success (with_reducible show wpAny _ _ (execs (Stmt.If (PySem.Expr.Compare (PySem.Expr.Name (Str.ofString "k") _) _ _ _) _ _ _ :: _) _) _ _ _)); (fail_if_success (with_reducible show InvEndN _ _ _ _ _ _ _)); first | ((with_reducible show wpAny _ _ (subscriptTail (PySem.Expr.Name (Str.ofString "ways") _) _ (Value.ref _) (Value.int _ _)) _ _ _); refine item_way (by assumption) (by assumption) (by first | assumption | omega) (by first | assumption | omega) (by first | assumption | omega) ?_; intro _ _ _ _ _) | ((with_reducible show wpAny _ _ (subscriptTail (PySem.Expr.Subscript _ _ _) _ (Value.ref _) (Value.int _ _)) _ _ _); refine tup_at (by first | assumption | exact IsTup.keeps (by assumption) (Fr.keep (by assumption))) (by decide) (by decide) rfl ?_) | (k_unfold; (try dsimp only)) | walk1 | (dsimp only; walk1) | (leave1; try dsimp only)))
        rename Fr g L' _ _ => FF
        rename News g L' _ _ => NN
        with_unfolding_all refine' For_invVF FF ?k1 ?k2 ?_
        case k1 => exact rfl
        case k2 => exact rfl
        (repeat' ((fail_if_success (with_reducible show wpAny _ _ (exec (Stmt.For _ _ _ _ _) _) _ _ _)); (fail_if_success (with_reducible show wpAny _ _ (pyIter _) _ _ _)); (fail_if_success (with_reducible show wpAny _ _ (subscriptTail (PySem.Expr.Name (Str.ofString "rows") _) _ _ _) _ _ _)); (fail_if_success (with_reducible show wpAny _ _ (subscriptTail (PySem.Expr.Name (Str.ofString "row") _) _ _ _) _ _ _)); (fail_if_success (with_reducible show wpAny _ _ (PySem.call (Value.builtin "list.append") _) _ _ _)); (fail_if_success (with_reducible show wpAny _ _ (PySem.call (Value.type "list") _) _ _ _)); (fail_if_success (with_reducible show wpAny _ _ (PySem.setItem _ _ _) _ _ _)); (fail_if_success (with_reducible show wpAny _ _ (execs (Stmt.Assign [PySem.Expr.Subscript _ _ _] _ _ :: _) _) _ _ _)); (fail_if_success (with_reducible show UnrEnd _ _ _ _ _ _ _)); (fail_if_success (with_reducible show wpAny _ _ (newList []) _ _ _)); (fail_if_success (with_reducible show wpAny _ _ (execs (Stmt.If (PySem.Expr.Compare (PySem.Expr.Name (Str.ofString "k") _) _ _ _) _ _ _ :: _) _) _ _ _)); (fail_if_success (with_reducible show InvEndN _ _ _ _ _ _ _)); first | ((with_reducible show wpAny _ _ (subscriptTail (PySem.Expr.Name (Str.ofString "ways") _) _ (Value.ref _) (Value.int _ _)) _ _ _); refine item_way (by assumption) (by assumption) (by first | assumption | omega) (by first | assumption | omega) (by first | assumption | omega) ?_; intro _ _ _ _ _) | ((with_reducible show wpAny _ _ (subscriptTail (PySem.Expr.Subscript _ _ _) _ (Value.ref _) (Value.int _ _)) _ _ _); refine tup_at (by first | assumption | exact IsTup.keeps (by assumption) (Fr.keep (by assumption))) (by decide) (by decide) rfl ?_) | (k_unfold; (try dsimp only)) | walk1 | (dsimp only; walk1) | (leave1; try dsimp only)))
        have hlen := hgw.len
        rename Fr g L' _ _ => FF
        rename News g L' _ _ => NN
        rename IsRange _ _ _ _ _ _ _ _ => hRg
        rw [hsz] at hRg
        refine kst_range (σ := Str × Tok) (n := ws.length) (fun _ => (I, it) :: (W, listOf wv.toArray wk) :: tail) (fun c => [(Str.ofString "word", .str c.1 c.2)]) (fun _ => True) [] (fun pre c => c.1 = ⟨(wordP ws cr pre.length).toArray⟩) (_, _) rfl hRg (small_range (by omega) (by omega) (by omega) (by omega)) (by rw [rangeSize_nat]; omega) FF NN True.intro (List.forall_mem_cons.mpr ⟨rfl, List.forall_mem_nil _⟩) ?_ ?_ ?_
        · rw [quote_str]; rfl
        · clear FF NN hRg
          rintro ⟨c, tc⟩ pre k tk9 u9 h9 tk9 own hk hlt hoff9 _ hP F N
          dsimp only at hP F N
          have hk0 : k = pre.length := by omega
          dsimp only [kstB] at F
          rename Fr g _ _ _ => F8
          simp only [List.cons_append] at N
          (try dsimp only); (try k_fold)
          have hcL : c.length ≤ 60 := by
            have h1 := wordP_len hgw cr pre.length (by omega)
            have h2 : c.length = (wordP ws cr pre.length).length := by rw [hP]; exact List.size_toArray
            omega
          refine cutF (σ := Str × Tok) (fun _ => (I, it) :: (W, listOf wv.toArray wk) :: (tail ++ own)) (fun c => [(Str.ofString "word", .str c.1 c.2)]) [] (fun c => c.1 = ⟨(wordP ws cr pre.length ++ (if pre.length = 0 then [] else [cr.getD pre.length 0])).toArray⟩) F8 N ?_ ?_
          · (repeat' ((fail_if_success (with_reducible show wpAny _ _ (exec (Stmt.For _ _ _ _ _) _) _ _ _)); (fail_if_success (with_reducible show wpAny _ _ (pyIter _) _ _ _)); (fail_if_success (with_reducible show wpAny _ _ (subscriptTail (PySem.Expr.Name (Str.ofString "rows") _) _ _ _) _ _ _)); (fail_if_success (with_reducible show wpAny _ _ (subscriptTail (PySem.Expr.Name (Str.ofString "row") _) _ _ _) _ _ _)); (fail_if_success (with_reducible show wpAny _ _ (PySem.call (Value.builtin "list.append") _) _ _ _)); (fail_if_success (with_reducible show wpAny _ _ (PySem.call (Value.type "list") _) _ _ _)); (fail_if_success (with_reducible show wpAny _ _ (PySem.setItem _ _ _) _ _ _)); (fail_if_success (with_reducible show wpAny _ _ (execs (Stmt.Assign [PySem.Expr.Subscript _ _ _] _ _ :: _) _) _ _ _)); (fail_if_success (with_reducible show UnrEnd _ _ _ _ _ _ _)); (fail_if_success (with_reducible show wpAny _ _ (newList []) _ _ _)); (fail_if_success (with_reducible show wpAny _ _ (execs (Stmt.If (PySem.Expr.Compare (PySem.Expr.Name (Str.ofString "k") _) _ _ _) _ _ _ :: _) _) _ _ _)); (fail_if_success (with_reducible show InvEndN _ _ _ _ _ _ _)); first | ((with_reducible show wpAny _ _ (subscriptTail (PySem.Expr.Name (Str.ofString "ways") _) _ (Value.ref _) (Value.int _ _)) _ _ _); refine item_way (by assumption) (by assumption) (by first | assumption | omega) (by first | assumption | omega) (by first | assumption | omega) ?_; intro _ _ _ _ _) | ((with_reducible show wpAny _ _ (subscriptTail (PySem.Expr.Subscript _ _ _) _ (Value.ref _) (Value.int _ _)) _ _ _); refine tup_at (by first | assumption | exact IsTup.keeps (by assumption) (Fr.keep (by assumption))) (by decide) (by decide) rfl ?_) | (k_unfold; (try dsimp only)) | walk1 | (dsimp only; walk1) | (leave1; try dsimp only)))
            · rename Fr g L' _ _ => FF
              rename News g L' _ _ => NN
              refine text_item NN (.tail _ (.tail _ (List.mem_append_left _ hRin))) hT (by omega) (by omega) (by omega) fun tr2 => ?_
              (repeat' ((fail_if_success (with_reducible show wpAny _ _ (exec (Stmt.For _ _ _ _ _) _) _ _ _)); (fail_if_success (with_reducible show wpAny _ _ (pyIter _) _ _ _)); (fail_if_success (with_reducible show wpAny _ _ (subscriptTail (PySem.Expr.Name (Str.ofString "rows") _) _ _ _) _ _ _)); (fail_if_success (with_reducible show wpAny _ _ (subscriptTail (PySem.Expr.Name (Str.ofString "row") _) _ _ _) _ _ _)); (fail_if_success (with_reducible show wpAny _ _ (PySem.call (Value.builtin "list.append") _) _ _ _)); (fail_if_success (with_reducible show wpAny _ _ (PySem.call (Value.type "list") _) _ _ _)); (fail_if_success (with_reducible show wpAny _ _ (PySem.setItem _ _ _) _ _ _)); (fail_if_success (with_reducible show wpAny _ _ (execs (Stmt.Assign [PySem.Expr.Subscript _ _ _] _ _ :: _) _) _ _ _)); (fail_if_success (with_reducible show UnrEnd _ _ _ _ _ _ _)); (fail_if_success (with_reducible show wpAny _ _ (newList []) _ _ _)); (fail_if_success (with_reducible show wpAny _ _ (execs (Stmt.If (PySem.Expr.Compare (PySem.Expr.Name (Str.ofString "k") _) _ _ _) _ _ _ :: _) _) _ _ _)); (fail_if_success (with_reducible show InvEndN _ _ _ _ _ _ _)); first | ((with_reducible show wpAny _ _ (subscriptTail (PySem.Expr.Name (Str.ofString "ways") _) _ (Value.ref _) (Value.int _ _)) _ _ _); refine item_way (by assumption) (by assumption) (by first | assumption | omega) (by first | assumption | omega) (by first | assumption | omega) ?_; intro _ _ _ _ _) | ((with_reducible show wpAny _ _ (subscriptTail (PySem.Expr.Subscript _ _ _) _ (Value.ref _) (Value.int _ _)) _ _ _); refine tup_at (by first | assumption | exact IsTup.keeps (by assumption) (Fr.keep (by assumption))) (by decide) (by decide) rfl ?_) | (k_unfold; (try dsimp only)) | walk1 | (dsimp only; walk1) | (leave1; try dsimp only)))
              rename Fr g L' _ _ => FF
              rename News g L' _ _ => NN
              rename_i tq kq aq hq
              refine Hand.mk (c ++ (⟨#[cr.getD k.toNat 0]⟩ : Str), tq) FF NN ?hn ?hk ?hr ?hd
              case hk => exact List.forall_mem_cons.mpr ⟨rfl, List.forall_mem_nil _⟩
              case hn => exact fun p hp => hp
              case hd =>
                show c ++ (⟨#[cr.getD k.toNat 0]⟩ : Str) = _
                rw [hP, str_app, if_neg (by omega), show k.toNat = pre.length by omega]; simp
              case hr =>
                intro z h1 _
                have h2 : z ≠ Str.ofString "word" := h1 _ (.head _)
                simp only [if_neg h2]
            · rename Fr g L' _ _ => FF
              rename News g L' _ _ => NN
              exact Hand.mk (c, tc) FF NN (fun p hp => hp) (List.forall_mem_cons.mpr ⟨rfl, List.forall_mem_nil _⟩) (fun _ _ _ => rfl) (by rw [hP, if_pos (by omega), List.append_nil])
          · rintro ⟨c2, tc2⟩ u7 h7 tk7 hd2 F7 N7
            dsimp only at hd2 F7 N7
            clear F8 N
            dsimp only [kstB] at F7
            (try dsimp only); (try k_fold)
            have hgk := hgw.at' pre.length hlt
            have hcL2 : c2.length ≤ 60 := by
              have h1 := wordP_len hgw cr pre.length (by omega)
              have h2 : c2.length = (wordP ws cr pre.length ++ (if pre.length = 0 then [] else [cr.getD pre.length 0])).length := by rw [hd2]; exact List.size_toArray
              have h3 : (if pre.length = 0 then [] else [cr.getD pre.length 0]).length ≤ 1 := by split <;> simp
              rw [List.length_append] at h2
              omega
            have e1 : k.toNat = pre.length := by omega
            rw [← e1] at hgk
            (repeat' ((fail_if_success (with_reducible show wpAny _ _ (exec (Stmt.For _ _ _ _ _) _) _ _ _)); (fail_if_success (with_reducible show wpAny _ _ (pyIter _) _ _ _)); (fail_if_success (with_reducible show wpAny _ _ (subscriptTail (PySem.Expr.Name (Str.ofString "rows") _) _ _ _) _ _ _)); (fail_if_success (with_reducible show wpAny _ _ (subscriptTail (PySem.Expr.Name (Str.ofString "row") _) _ _ _) _ _ _)); (fail_if_success (with_reducible show wpAny _ _ (PySem.call (Value.builtin "list.append") _) _ _ _)); (fail_if_success (with_reducible show wpAny _ _ (PySem.call (Value.type "list") _) _ _ _)); (fail_if_success (with_reducible show wpAny _ _ (PySem.setItem _ _ _) _ _ _)); (fail_if_success (with_reducible show wpAny _ _ (execs (Stmt.Assign [PySem.Expr.Subscript _ _ _] _ _ :: _) _) _ _ _)); (fail_if_success (with_reducible show UnrEnd _ _ _ _ _ _ _)); (fail_if_success (with_reducible show wpAny _ _ (newList []) _ _ _)); (fail_if_success (with_reducible show wpAny _ _ (execs (Stmt.If (PySem.Expr.Compare (PySem.Expr.Name (Str.ofString "k") _) _ _ _) _ _ _ :: _) _) _ _ _)); (fail_if_success (with_reducible show InvEndN _ _ _ _ _ _ _)); first | ((with_reducible show wpAny _ _ (subscriptTail (PySem.Expr.Name (Str.ofString "ways") _) _ (Value.ref _) (Value.int _ _)) _ _ _); refine item_way (by assumption) (by assumption) (by first | assumption | omega) (by first | assumption | omega) (by first | assumption | omega) ?_; intro _ _ _ _ _) | ((with_reducible show wpAny _ _ (subscriptTail (PySem.Expr.Subscript _ _ _) _ (Value.ref _) (Value.int _ _)) _ _ _); refine tup_at (by first | assumption | exact IsTup.keeps (by assumption) (Fr.keep (by assumption))) (by decide) (by decide) rfl ?_) | (k_unfold; (try dsimp only)) | walk1 | (dsimp only; walk1) | (leave1; try dsimp only)))
            rename Fr g L' _ _ => FF
            rename News g L' _ _ => NN
            rename_i tq kq aq hq
            refine kst_end (c2 ++ Txt.mul (Str.ofString "\"") (ws.getD k.toNat (0, 0, 0)).2.2, tq) FF NN ?hn ?ho ?ha ?hf ?hk ?hr ?hp
            case ha => exact rfl
            case hf => exact True.intro
            case hk => exact List.forall_mem_cons.mpr ⟨rfl, List.forall_mem_nil _⟩
            case hn =>
              refine List.forall_mem_cons.mpr ⟨.head _, List.forall_mem_cons.mpr ⟨.tail _ (.head _), fun p hp => .tail _ (.tail _ (List.mem_append_left _ hp))⟩⟩
            case ho =>
              exact fun p hp => .tail _ (.tail _ (List.mem_append_right _ hp))
            case hp =>
              show c2 ++ Txt.mul _ _ = _
              rw [mul_quote (by omega) (by omega), hd2, str_app, List.length_append, e1]
              simp [wordP]
            case hr =>
              intro z h1 h2 h3
              have h4 : z ≠ Str.ofString "word" := h2 _ (.head _)
              simp only [if_neg h4, if_neg h1, List.contains_nil, Bool.false_eq_true, if_false]
        · intro c u8 h8 tk8 _ hP F N
          rw [rangeKs_length] at hP
          obtain ⟨u6, F6⟩ := Fr.norm [(Str.ofString "word", .str c.1 c.2), (Str.ofString "ways", .ref D), (Str.ofString "words", .ref W)] F (List.forall_mem_cons.mpr ⟨rfl, List.forall_mem_cons.mpr ⟨rfl, List.forall_mem_cons.mpr ⟨rfl, List.forall_mem_nil _⟩⟩⟩)
          clear F FF NN
          dsimp only [kstB] at F6
          (try dsimp only); (try k_fold)
          (repeat' ((fail_if_success (with_reducible show wpAny _ _ (exec (Stmt.For _ _ _ _ _) _) _ _ _)); (fail_if_success (with_reducible show wpAny _ _ (pyIter _) _ _ _)); (fail_if_success (with_reducible show wpAny _ _ (subscriptTail (PySem.Expr.Name (Str.ofString "rows") _) _ _ _) _ _ _)); (fail_if_success (with_reducible show wpAny _ _ (subscriptTail (PySem.Expr.Name (Str.ofString "row") _) _ _ _) _ _ _)); (fail_if_success (with_reducible show wpAny _ _ (PySem.call (Value.builtin "list.append") _) _ _ _)); (fail_if_success (with_reducible show wpAny _ _ (PySem.call (Value.type "list") _) _ _ _)); (fail_if_success (with_reducible show wpAny _ _ (PySem.setItem _ _ _) _ _ _)); (fail_if_success (with_reducible show wpAny _ _ (execs (Stmt.Assign [PySem.Expr.Subscript _ _ _] _ _ :: _) _) _ _ _)); (fail_if_success (with_reducible show UnrEnd _ _ _ _ _ _ _)); (fail_if_success (with_reducible show wpAny _ _ (newList []) _ _ _)); (fail_if_success (with_reducible show wpAny _ _ (execs (Stmt.If (PySem.Expr.Compare (PySem.Expr.Name (Str.ofString "k") _) _ _ _) _ _ _ :: _) _) _ _ _)); (fail_if_success (with_reducible show InvEndN _ _ _ _ _ _ _)); first | ((with_reducible show wpAny _ _ (subscriptTail (PySem.Expr.Name (Str.ofString "ways") _) _ (Value.ref _) (Value.int _ _)) _ _ _); refine item_way (by assumption) (by assumption) (by first | assumption | omega) (by first | assumption | omega) (by first | assumption | omega) ?_; intro _ _ _ _ _) | ((with_reducible show wpAny _ _ (subscriptTail (PySem.Expr.Subscript _ _ _) _ (Value.ref _) (Value.int _ _)) _ _ _); refine tup_at (by first | assumption | exact IsTup.keeps (by assumption) (Fr.keep (by assumption))) (by decide) (by decide) rfl ?_) | (k_unfold; (try dsimp only)) | walk1 | (dsimp only; walk1) | (leave1; try dsimp only)))
          rename Fr g L' _ _ => FF
          rename News g L' _ _ => NN
          refine append_K FF NN (Upd.tail hIW (Upd.head hWt)) (fun h5 F5 N5 => ?_) (by rw [List.size_toArray, hwl, PySem.sizeLine_eq]; omega)
          clear FF NN
          (repeat' ((fail_if_success (with_reducible show wpAny _ _ (exec (Stmt.For _ _ _ _ _) _) _ _ _)); (fail_if_success (with_reducible show wpAny _ _ (pyIter _) _ _ _)); (fail_if_success (with_reducible show wpAny _ _ (subscriptTail (PySem.Expr.Name (Str.ofString "rows") _) _ _ _) _ _ _)); (fail_if_success (with_reducible show wpAny _ _ (subscriptTail (PySem.Expr.Name (Str.ofString "row") _) _ _ _) _ _ _)); (fail_if_success (with_reducible show wpAny _ _ (PySem.call (Value.builtin "list.append") _) _ _ _)); (fail_if_success (with_reducible show wpAny _ _ (PySem.call (Value.type "list") _) _ _ _)); (fail_if_success (with_reducible show wpAny _ _ (PySem.setItem _ _ _) _ _ _)); (fail_if_success (with_reducible show wpAny _ _ (execs (Stmt.Assign [PySem.Expr.Subscript _ _ _] _ _ :: _) _) _ _ _)); (fail_if_success (with_reducible show UnrEnd _ _ _ _ _ _ _)); (fail_if_success (with_reducible show wpAny _ _ (newList []) _ _ _)); (fail_if_success (with_reducible show wpAny _ _ (execs (Stmt.If (PySem.Expr.Compare (PySem.Expr.Name (Str.ofString "k") _) _ _ _) _ _ _ :: _) _) _ _ _)); (fail_if_success (with_reducible show InvEndN _ _ _ _ _ _ _)); first | ((with_reducible show wpAny _ _ (subscriptTail (PySem.Expr.Name (Str.ofString "ways") _) _ (Value.ref _) (Value.int _ _)) _ _ _); refine item_way (by assumption) (by assumption) (by first | assumption | omega) (by first | assumption | omega) (by first | assumption | omega) ?_; intro _ _ _ _ _) | ((with_reducible show wpAny _ _ (subscriptTail (PySem.Expr.Subscript _ _ _) _ (Value.ref _) (Value.int _ _)) _ _ _); refine tup_at (by first | assumption | exact IsTup.keeps (by assumption) (Fr.keep (by assumption))) (by decide) (by decide) rfl ?_) | (k_unfold; (try dsimp only)) | walk1 | (dsimp only; walk1) | (leave1; try dsimp only)))
          rename Fr g L' _ _ => FF
          rename News g L' _ _ => NN
          have happ : (wv.toArray.push (Value.str c.1 c.2)) = (wv ++ [Value.str c.1 c.2]).toArray := by simp
          rw [happ] at NN
          refine UnrEnd.intro FF NN ((W, listOf (wv ++ [Value.str c.1 c.2]).toArray (wk + 1)) :: tail) (fun p hp => hp) ?_ ⟨?_, wk + 1, wv ++ [Value.str c.1 c.2], ?_, ?_, rfl, ?_, ?_⟩
          · exact List.forall_mem_cons.mpr ⟨Ne.symm hIW, hIt⟩
          · exact hRm _ fun p hp => .tail _ hp
          · exact rfl
          · exact rfl
          · rw [List.length_append, hwl]; rfl
          · intro j hj
            by_cases hji : j < i
            · rw [List.getElem?_append_left (by omega)]
              exact hwv j hji
            · obtain rfl : j = i := by omega
              refine ⟨c.2, ?_⟩
              rw [List.getElem?_append_right (by omega), hwl, Nat.sub_self, hP, hcr]
              rfl
      · intro m news hJ h tk F N
        obtain ⟨wk, wv, h0, h1, rfl, hwl, hwv⟩ := hJ
        obtain ⟨u9, F'⟩ := Fr.norm [(Str.ofString "words", .ref W)] F (List.forall_mem_cons.mpr ⟨h1, List.forall_mem_nil _⟩)
        clear F FF NN
        dsimp only [kstB] at F'
        (try dsimp only); (try k_fold)
        (repeat' ((fail_if_success (with_reducible show wpAny _ _ (exec (Stmt.For _ _ _ _ _) _) _ _ _)); (fail_if_success (with_reducible show wpAny _ _ (pyIter _) _ _ _)); (fail_if_success (with_reducible show wpAny _ _ (subscriptTail (PySem.Expr.Name (Str.ofString "rows") _) _ _ _) _ _ _)); (fail_if_success (with_reducible show wpAny _ _ (subscriptTail (PySem.Expr.Name (Str.ofString "row") _) _ _ _) _ _ _)); (fail_if_success (with_reducible show wpAny _ _ (PySem.call (Value.builtin "list.append") _) _ _ _)); (fail_if_success (with_reducible show wpAny _ _ (PySem.call (Value.type "list") _) _ _ _)); (fail_if_success (with_reducible show wpAny _ _ (PySem.setItem _ _ _) _ _ _)); (fail_if_success (with_reducible show wpAny _ _ (execs (Stmt.Assign [PySem.Expr.Subscript _ _ _] _ _ :: _) _) _ _ _)); (fail_if_success (with_reducible show UnrEnd _ _ _ _ _ _ _)); (fail_if_success (with_reducible show wpAny _ _ (newList []) _ _ _)); (fail_if_success (with_reducible show wpAny _ _ (execs (Stmt.If (PySem.Expr.Compare (PySem.Expr.Name (Str.ofString "k") _) _ _ _) _ _ _ :: _) _) _ _ _)); (fail_if_success (with_reducible show InvEndN _ _ _ _ _ _ _)); first | ((with_reducible show wpAny _ _ (subscriptTail (PySem.Expr.Name (Str.ofString "ways") _) _ (Value.ref _) (Value.int _ _)) _ _ _); refine item_way (by assumption) (by assumption) (by first | assumption | omega) (by first | assumption | omega) (by first | assumption | omega) ?_; intro _ _ _ _ _) | ((with_reducible show wpAny _ _ (subscriptTail (PySem.Expr.Subscript _ _ _) _ (Value.ref _) (Value.int _ _)) _ _ _); refine tup_at (by first | assumption | exact IsTup.keeps (by assumption) (Fr.keep (by assumption))) (by decide) (by decide) rfl ?_) | (k_unfold; (try dsimp only)) | walk1 | (dsimp only; walk1) | (leave1; try dsimp only)))
        rename Fr g L' _ _ => FF
        rename News g L' _ _ => NN
        rw [List.length_map, hRl] at hwl hwv
        refine hret _ _ _ (stays_of hg FF) (NewObj.of hg NN (.head _) ⟨wv, wk, rfl, hwl, hwv⟩)
      · exact ⟨_, [], rfl, rfl, rfl, rfl, fun j hj => absurd hj (Nat.not_lt_zero _)⟩
    · refine ⟨RL, kT, [R0], [k0], [us0], rfl, rfl, rfl, fun p hp => ?_, rfl, rfl, rfl, fun j hj => ?_⟩
      · obtain rfl := List.mem_singleton.mp hp
        exact hd.2
      · obtain rfl : j = 0 := by omega
        exact hd.1
end Mine

-- P22
open PySem PySem.W PyProof.Rows PyProof
set_option Elab.async false
set_option maxRecDepth 100000
set_option linter.unusedVariables false
namespace Mine
noncomputable def portB (x : Str) (n : Int) : Bool := good229B x n && decide (3 ≤ x.length) && decide (x.length ≤ 60) && (Txt.slice x none (some 3) != Str.ofString "257")
theorem port_all {a l q : Int} (a0 : 0 ≤ a) (a1 : a ≤ 3) (l0 : 1 ≤ l) (l1 : l ≤ 2) (q0 : 0 ≤ q) (q1 : q ≤ 1) : portB (portF a l q) (10 * a + l) = true := by
  have key : ∀ (a : Fin 4) (l q : Fin 2), portB (portF (a.val : Int) ((l.val : Int) + 1) (q.val : Int)) (10 * (a.val : Int) + ((l.val : Int) + 1)) = true := by decide +kernel
  have := key ⟨a.toNat, by omega⟩ ⟨(l - 1).toNat, by omega⟩ ⟨q.toNat, by omega⟩
  dsimp only at this
  rwa [show ((a.toNat : Nat) : Int) = a by omega, show (((l - 1).toNat : Nat) : Int) + 1 = l by omega, show ((q.toNat : Nat) : Int) = q by omega] at this
theorem port_bad {a l q : Int} (a0 : 0 ≤ a) (a1 : a ≤ 3) (l0 : 1 ≤ l) (l1 : l ≤ 2) (q0 : 0 ≤ q) (q1 : q ≤ 1) : 3 ≤ (portF a l q).length ∧ (portF a l q).length ≤ 60 ∧ (Txt.slice (portF a l q) none (some 3) != Str.ofString "257") = true := by
  have h := port_all a0 a1 l0 l1 q0 q1
  unfold portB at h
  simp only [Bool.and_eq_true, decide_eq_true_eq] at h
  exact ⟨h.1.1.2, h.1.2, h.2⟩
theorem port_good {a l q : Int} (a0 : 0 ≤ a) (a1 : a ≤ 3) (l0 : 1 ≤ l) (l1 : l ≤ 2) (q0 : 0 ≤ q) (q1 : q ≤ 1) : Good229 (portF a l q) (10 * a + l) := by
  have h := port_all a0 a1 l0 l1 q0 q1
  unfold portB at h
  simp only [Bool.and_eq_true] at h
  exact good_of h.1.1.1
theorem reply_bad (x : Str) (h : x.length ≤ 60) : 3 ≤ (replyF x).length ∧ (replyF x).length ≤ 1000 ∧ (Txt.slice (replyF x) none (some 3) != Str.ofString "229") = true := by
  have h1 := reply_len x (by omega)
  have h2 := reply_take x
  refine ⟨by omega, h1.2, ?_⟩
  rw [beq_iff_eq.mp (open257 h2 h1.1)]
  decide +kernel
end Mine

-- FR1
open PySem PySem.W PyProof.Rows PyProof
set_option Elab.async false
set_option maxRecDepth 100000
set_option maxHeartbeats 8000000
set_option pp.deepTerms false
set_option pp.deepTerms.threshold 6
set_option rowWalk.seconds 0
namespace Mine

/-- a reader that refuses x: it raises error_reply -/
noncomputable def Refuses (w : World) (p : Program) (loose : List Str) (mean : ExcName → Option Value) (mg mb : Str → Option Value) (base : Heap) (env : Env) (rd : Addr) (x : Str) (tx : Tok) (Pre : Heap → Prop) : Prop :=
  ∀ (name : Str) (scope : Scope) (L a : Addr) (cd : Value) (g : Heap) (m : Str → Option Value) (s : Shared) (Q E : Value → Shared → Prop),
    Below (callerA.deeper env) base [env] g → Fr g L s.heap m → (hd1.heap_1 w.params).In g → Top p loose mean mg mb g → scope.kind = .function → Pre s.heap →
    (∀ e t h' tk', RaisedS base s.heap (envOf name scope L a cd :: [env]) e (.ref 93) t [.str x tx] [] h' → s.heap.UpToSlots h' → E (.ref e) { s with heap := h', toks := tk' }) →
    wpAny (model PySem.Challenge.rw_rs0157_01.prog w) ((callerA.deeper env).deeper (envOf name scope L a cd)) (PySem.call (.ref rd) [.str x tx]) Q E s
theorem reader1 {w : World} {p : Program} {loose : List Str} {mean : ExcName → Option Value} {mg mb : Str → Option Value} {cn : Str} {cs : Scope} {a : Addr} {ccd : Value} {base : Heap} {L : Addr} {x : Str} {tx : Tok}
    (hl1 : 3 ≤ x.length) (hl2 : x.length ≤ 1000) (hne : (Txt.slice x none (some 3) != Str.ofString "257") = true) : Refuses w p loose mean mg mb base (envOfC cn cs L a ccd) 121 x tx (fun h => FnAt 121 h) := by
  unfold Refuses
  k_fill
  k_with_none
  w_top off
  intro name scope L1 a1 cd1 g m s Q E hB hF hX hT hk _ hE
  refine wpAny_call ?_
  ((k_dflt (refine' code_pure ?k1 ?k2 ?k3 ?k5 ?kA ?kF ?kK ?k6 ?k7 ?k8 ?k9 ?kB ?_ ?c2 ?c3 ?c4 ?c5; (case kA => exact rfl); (case kF => exact rfl); (case kK => first | assumption | exact rfl); (case k1 => k_asm); (case k2 => k_asm); (case k3 => k_asm); (case k5 => k_asm); (case k6 => k_is); (case k7 => k_is); (case k8 => (simp only [depth_deeper, depth_caller]; decide)); (case k9 => exact BindsTo.of_eq rfl); (case c5 => decide); (case kB => exact locs rfl); (case c2 => exact rfl); (case c3 => exact rfl); (case c4 => exact rfl); k_whole)))
  intro g2 L2 h2 hg2 F2 N2 B2 X2 T2
  (repeat' ((fail_if_success (with_reducible show wpAny _ _ (noteFrame _ _) _ _ _)); (fail_if_success (with_reducible show wpAny _ _ (leaving _ _) _ _ _)); (fail_if_success (with_reducible show wpAny _ _ (PySem.call _ [Value.str _ _]) _ _ _)); (fail_if_success (with_reducible show wpAny _ _ (PySem.call (Value.ref 114) _) _ _ _)); first | (k_unfold; (try dsimp only)) | walk1 | (dsimp only; walk1) | (leave1; try dsimp only)))
  rename Heap.MadeExcOf _ _ _ _ _ => hMX
  rename Fr g2 L2 _ _ => FX
  rename News g2 L2 _ _ => NX
  refine leave_raiseS B2 hMX FX NX (fun h5 t5 S5 R5 U5 => ?_)
  subst hg2
  exact hE _ _ _ _ S5 U5
theorem refused_ok {w : World} {p : Program} {loose : List Str} {mean : ExcName → Option Value} {mg mb : Str → Option Value} {cn : Str} {cs : Scope} {a : Addr} {ccd : Value} {base : Heap} {L : Addr} {m : Str → Option Value} {s : Shared} {Q E : Value → Shared → Prop} {news : List (Addr × Obj)} {rd : Addr} {x : Str} {tx : Tok} {Pre : Heap → Prop}
    (hB : Below callerA base [] base) (hF : Fr base L s.heap m) (hX : (hd1.heap_1 w.params).In base) (hT : Top p loose mean mg mb base) (hN : News base L s.heap news) (hcs : cs.kind = .function)
    (hR : Refuses w p loose mean mg mb base (envOfC cn cs L a ccd) rd x tx Pre) (hpre : Pre s.heap) (hfn : ∀ h : Heap, Pre h → FnAt rd h) (hmono : ∀ h : Heap, s.heap.StaysIn h → Pre h)
    (ret : ∀ h' tk', Fr base L h' m → News base L h' news → Q (.bool true) { s with heap := h', toks := tk' }) :
    wpAny (model PySem.Challenge.rw_rs0157_01.prog w) (callerA.deeper (envOfC cn cs L a ccd)) (PySem.call (.ref 156) [.ref rd, .str x tx]) Q E s := by
  revert hX hR
  k_fill
  intro hX hR
  k_with_none
  refine wpAny_call ?_
  ((k_dflt (refine' code_pure ?k1 ?k2 ?k3 ?k5 ?kA ?kF ?kK ?k6 ?k7 ?k8 ?k9 ?kB ?_ ?c2 ?c3 ?c4 ?c5; (case kA => exact rfl); (case kF => exact rfl); (case kK => first | assumption | exact rfl); (case k1 => k_asm); (case k2 => k_asm); (case k3 => k_asm); (case k5 => k_asm); (case k6 => k_is); (case k7 => k_is); (case k8 => (simp only [depth_deeper, depth_caller]; decide)); (case k9 => exact BindsTo.of_eq rfl); (case c5 => decide); (case kB => exact locs rfl); (case c2 => exact rfl); (case c3 => exact rfl); (case c4 => exact rfl); k_whole)))
  intro g L1 h1 hg F1 N1 B1 X1 T1
  (repeat' ((fail_if_success (with_reducible show wpAny _ _ (noteFrame _ _) _ _ _)); (fail_if_success (with_reducible show wpAny _ _ (leaving _ _) _ _ _)); (fail_if_success (with_reducible show wpAny _ _ (PySem.call _ [Value.str _ _]) _ _ _)); (fail_if_success (with_reducible show wpAny _ _ (callWith _ (Value.ref _) _ _ _) _ _ _)); (fail_if_success (with_reducible show FnAt _ _ ∧ _)); first | (k_unfold; (try dsimp only)) | walk1 | (dsimp only; walk1) | (leave1; try dsimp only)))
  rename Fr g L1 _ _ => FF
  rename News g L1 _ _ => NN
  have hp1 : Pre h1 := hmono h1 (fun b o e => FF.keep b o (by rw [hg]; exact e))
  refine callWith_F (hfn _ hp1) ?_
  (repeat' ((fail_if_success (with_reducible show wpAny _ _ (noteFrame _ _) _ _ _)); (fail_if_success (with_reducible show wpAny _ _ (leaving _ _) _ _ _)); (fail_if_success (with_reducible show wpAny _ _ (PySem.call _ [Value.str _ _]) _ _ _)); (fail_if_success (with_reducible show wpAny _ _ (callWith _ (Value.ref _) _ _ _) _ _ _)); (fail_if_success (with_reducible show FnAt _ _ ∧ _)); first | (k_unfold; (try dsimp only)) | walk1 | (dsimp only; walk1) | (leave1; try dsimp only)))
  refine ⟨hfn _ hp1, ?_⟩
  refine hR _ _ _ _ _ g ?zm _ _ _ B1 ?zF X1 T1 ?zk ?zp (fun e5 t5 h5 tk5 S5 U5 => ?_)
  case zF => exact FF
  case zk => exact rfl
  case zp => exact hp1
  have hD : KtsDicts ([envOfC cn cs L a ccd].filterMap (·.frame)) g := by
    intro b hb
    obtain rfl : b = L := by simpa [envOfC] using hb
    obtain ⟨oL, es, ep, hL, hLd, _⟩ := hF.ns
    exact ⟨oL, es, ep, by rw [hg]; exact hL, hLd⟩
  refine caught_SO0 S5 FF B1 U5 hX hT hD KtsTurn.refl (by k_is) (by kts_isx) ?_
  intro h6 g6 n6 T6 F6 N6 G6 N6' B6 X6 T6' D6
  have K6 : ∀ b o, b ≠ L → s.heap.get? b = some o → h6.get? b = some o := fun b o hb e => F6.keep b o (T6.other b o (by rw [hg]; exact e) (by simpa [envOfC] using hb))
  have FL : Fr base L h6 m := hF.of_stays (fun b o e => F6.keep b o (B6.stays b o e)) (fun b o e _ => by
    obtain ⟨sl, q⟩ := T6.up (b := b) (o := o) (by rw [hg]; exact e)
    exact ⟨sl, F6.keep _ _ q⟩)
  have NL : News base L h6 news := fun q hq => ⟨K6 _ _ (hN q hq).2.1 (hN q hq).1, (hN q hq).2⟩
  clear K6 N6 G6 N6' X6 T6' D6 T6 hR
  (repeat' ((fail_if_success (with_reducible show wpAny _ _ (noteFrame _ _) _ _ _)); (fail_if_success (with_reducible show wpAny _ _ (leaving _ _) _ _ _)); (fail_if_success (with_reducible show wpAny _ _ (PySem.call _ [Value.str _ _]) _ _ _)); (fail_if_success (with_reducible show wpAny _ _ (PySem.call (Value.ref 114) _) _ _ _)); first | (k_unfold; (try dsimp only)) | walk1 | (dsimp only; walk1) | (leave1; try dsimp only)))
  exact ret _ _ FL NL
theorem code_lam {prog : Program} {A A₀ : Around} {s : Shared} {K : Frag} {L : Addr} {h₀ base : Heap} {m mg mb : Str → Option Value} {p : Program} {loose : List Str} {mean : ExcName → Option Value} {w : World}
    {env : Env} {outer : List Env} {Q E : Value → Shared → Prop} {name qual : Str} {params : Arguments} {body : PySem.Expr} {scope : Scope} {cl : List (Str × Addr)} {pm ctv : Value} {c' : Addr} {f : Addr} {args : Args} {binds : List (Str × Value)}
    (B : Below A₀ base outer h₀) (F : Fr h₀ L s.heap m) (X₀ : K.In h₀) (T : Top p loose mean mg mb h₀) (hA : A.frames = some (env :: outer)) (hf : env.frame = some L) (hke : env.scope.kind = .function)
    (ho : s.heap.get? f = some (kla_obj name qual params body scope cl pm c' ctv)) (hcd : s.heap.CodeRec (.ref c') qual) (hroom : A.depth < recursionLimit)
    (hbind : bindArgs (kla_fn name qual params body scope cl pm (.ref c') ctv) args = pure binds) (hloc : ∀ y ∈ binds, scope.names.lookup y.1 = some .local)
    (h : ∀ g L' h₁, g = s.heap → Fr g L' h₁ (fun y => binds.reverse.lookup y) → News g L' h₁ [] → Below A base (env :: outer) g → K.In g → Top p loose mean mg mb g →
      wpAny (model prog w) (A.deeper (envX qual scope L' f (.ref c') cl)) (eval body (envX qual scope L' f (.ref c') cl))
        (fun v s' => RetP Q v s')
        (fun e s' => wpAny (model prog w) (A.deeper (envX qual scope L' f (.ref c') cl)) (leaving (envX qual scope L' f (.ref c') cl) e) (fun _ s'' => E e s'') (fun e' s'' => E e' s'') s')
        { s with heap := h₁, toks := s.toks + binds.length })
    (hco : scope.isCoroutine = false) (hgen : scope.isGenerator = false) (hk : scope.kind = .function)
    (hcell : ∀ x ∈ scope.names, x.2 ≠ .cell) : codeAny (model prog w) A (.call (.ref f) args) (fun r s' => match r with | .ok (.ret v) => Q v s' | .ok _ => False | .error e => E e s') s := by
  obtain ⟨_, BG, _, _⟩ := groundX (R := fun _ _ => True) B F News.nil hA hf hke
  refine kla_callFunE hroom ho rfl hco hgen rfl hcd ?_
  rw [hbind]
  refine wpAny_pure (wpAny_newFunctionEnv hcell hloc (fun h₁ hns hsb => ⟨((T.nolimit).keeps F.keep).fresh _ hsb, ?_⟩) hk)
  have hk₁ : ∀ b o, s.heap.get? b = some o → h₁.get? b = some o := fun b o e => hsb.extBut b o (Nat.ne_of_lt (Heap.lt_size e)) (Heap.get?_push_of_some _ e)
  exact kla_codeExpr (h s.heap s.heap.objs.size h₁ rfl ⟨hns, hk₁, Nat.le_refl _⟩ News.nil BG (X₀.keeps F.keep) (T.keeps F.keep))
end Mine

-- FR2
open PySem PySem.W PyProof.Rows PyProof
set_option Elab.async false
set_option maxRecDepth 100000
set_option maxHeartbeats 8000000
set_option pp.deepTerms false
set_option pp.deepTerms.threshold 6
set_option rowWalk.seconds 0
namespace Mine

noncomputable def lamIs (st : Stmt) (params : Arguments) (body : PySem.Expr) (scope : Scope) : Prop := match st with
  | .If (.UnaryOp _ (.Call _ (.Lambda a b s _ :: _) _ _) _) _ _ _ => params = a ∧ body = b ∧ scope = s
  | _ => False
theorem reader2 {w : World} {p : Program} {loose : List Str} {mean : ExcName → Option Value} {mg mb : Str → Option Value} {cn : Str} {cs : Scope} {a : Addr} {ccd : Value} {base : Heap} {L : Addr} {x : Str} {tx : Tok} {f c' : Addr} {pm ctv : Value} {params : Arguments} {body : PySem.Expr} {scope : Scope} {nm qual : Str}
    (hlam : lamIs ((lawBody w.params).getD 4 default) params body scope)
    (hl1 : 3 ≤ x.length) (hl2 : x.length ≤ 1000) (hne : (Txt.slice x none (some 3) != Str.ofString "229") = true) : Refuses w p loose mean mg mb base (envOfC cn cs L a ccd) f x tx (fun h => h.get? f = some (kla_obj nm qual params body scope [] pm c' ctv) ∧ h.CodeRec (.ref c') qual) := by
  unfold Refuses
  k_fill
  k_with_none
  w_top off
  generalize hbody : (lawBody w.params).getD 4 default = st at hlam
  conv at hbody => lhs; whnf
  subst hbody
  obtain ⟨rfl, rfl, rfl⟩ := hlam
  intro name sc L1 a1 cd1 g m s Q E hB hF hX hT hk hpre hE
  obtain ⟨ho, hcr⟩ := hpre
  refine wpAny_call ?_
  refine code_lam hB hF hX hT rfl rfl hk ho hcr (by simp only [depth_deeper, depth_caller]; decide) rfl (locs rfl) ?_ rfl rfl rfl (by decide)
  intro g2 L2 h2 hg2 F2 N2 B2 X2 T2
  (repeat' ((fail_if_success (with_reducible show wpAny _ _ (noteFrame _ _) _ _ _)); (fail_if_success (with_reducible show wpAny _ _ (leaving _ _) _ _ _)); (fail_if_success (with_reducible show wpAny _ _ (PySem.call _ [Value.str _ _]) _ _ _)); (fail_if_success (with_reducible show wpAny _ _ (PySem.call (Value.ref 114) _) _ _ _)); first | (k_unfold; (try dsimp only)) | walk1 | (dsimp only; walk1) | (leave1; try dsimp only)))
  rename Fr g2 L2 _ _ => FL
  refine wpAny_call ?_
  ((k_dflt (refine' code_pure ?k1 ?k2 ?k3 ?k5 ?kA ?kF ?kK ?k6 ?k7 ?k8 ?k9 ?kB ?_ ?c2 ?c3 ?c4 ?c5; (case kA => exact rfl); (case kF => exact rfl); (case kK => first | assumption | exact rfl); (case k1 => k_asm); (case k2 => k_asm); (case k3 => k_asm); (case k5 => k_asm); (case k6 => k_is); (case k7 => k_is); (case k8 => (simp only [depth_deeper, depth_caller]; decide)); (case k9 => exact BindsTo.of_eq rfl); (case c5 => decide); (case kB => exact locs rfl); (case c2 => exact rfl); (case c3 => exact rfl); (case c4 => exact rfl); k_whole)))
  intro g3 L3 h3 hg3 F3 N3 B3 X3 T3
  (repeat' ((fail_if_success (with_reducible show wpAny _ _ (noteFrame _ _) _ _ _)); (fail_if_success (with_reducible show wpAny _ _ (leaving _ _) _ _ _)); (fail_if_success (with_reducible show wpAny _ _ (PySem.call _ [Value.str _ _]) _ _ _)); (fail_if_success (with_reducible show wpAny _ _ (PySem.call (Value.ref 114) _) _ _ _)); first | (k_unfold; (try dsimp only)) | walk1 | (dsimp only; walk1) | (leave1; try dsimp only)))
  rename Heap.MadeExcOf _ _ _ _ _ => hMX
  rename Fr g3 L3 _ _ => FX
  rename News g3 L3 _ _ => NX
  refine leave_raiseS B3 hMX FX NX (fun h5 t5 S5 R5 U5 => ?_)
  subst hg3
  refine leave_onS B2 FL S5 U5 (fun h6 S6 R6 U6 => ?_)
  subst hg2
  exact hE _ _ _ _ S6 U6
end Mine

-- P23
open PySem PySem.W PyProof.Rows PyProof
set_option Elab.async false
set_option maxRecDepth 100000
set_option linter.unusedVariables false
namespace Mine
theorem tab_ne_it (ps : Array Value) (x y : Int) : tabObj ps ≠ itR x y := fun e => by
  have e1 := congrArg Obj.cls e
  exact absurd (show (tabObj #[]).cls = (itR 0 0).cls from e1) (by decide)
theorem FilAt.ne_it {P : Addr} {pos : Pos} {qual : Str} {g : Heap} {t : Led} (h : FilAt P pos qual g t) (x y : Int) : ∀ q ∈ t, q.2 ≠ itR x y := by
  obtain ⟨ps, c', oc, vs, t', rfl, _, _, h5, h6, _⟩ := h
  refine List.forall_mem_cons.mpr ⟨tab_ne_it _ _ _, List.forall_mem_cons.mpr ⟨fun e => ?_, List.forall_mem_nil _⟩⟩
  have e' : oc = itR x y := e
  rw [e'] at h5
  obtain rfl : #[rawInt x, rawInt y, rawInt 1] = vs := Data.fields.inj h5
  cases h6
theorem TabsOn.ne_it {w : World} {t : Led} (h : TabsOn w t) (x y : Int) : ∀ q ∈ t, q.2 ≠ itR x y := by
  obtain ⟨a, b, rfl, ha, hb⟩ := h
  intro q hq
  rcases List.mem_append.mp hq with hq | hq
  · rcases ha with rfl | ⟨g, ha⟩
    · obtain rfl := List.mem_singleton.mp hq; exact tab_ne_it _ _ _
    · exact ha.ne_it x y q hq
  · rcases hb with rfl | ⟨g, hb⟩
    · obtain rfl := List.mem_singleton.mp hq; exact tab_ne_it _ _ _
    · exact hb.ne_it x y q hq
theorem TabsOn.offI {w : World} {t news : Led} {h₀ h : Heap} {L I : Addr} {x y : Int} (H : TabsOn w t) (N : News h₀ L h news) (m : (I, itR x y) ∈ news) (ms : ∀ q ∈ t, q ∈ news) : ∀ q ∈ t, q.1 ≠ I := fun q hq =>
  News.ne2 (p := q) (q := (I, itR x y)) N N (ms q hq) m (H.ne_it x y q hq)
theorem notin_of {t : Led} {a : Addr} (h : ∀ q ∈ t, q.1 ≠ a) : a ∉ t.map (·.1) := fun e => by
  obtain ⟨q, hq, e⟩ := List.mem_map.mp e
  exact h q hq e
end Mine

-- P24
open PySem PySem.W PyProof.Rows PyProof
set_option Elab.async false
set_option maxRecDepth 100000
set_option linter.unusedVariables false
namespace Mine
theorem News.drop2 {h₀ h : Heap} {L : Addr} {x y : Addr × Obj} {r : List (Addr × Obj)} (N : News h₀ L h (x :: y :: r)) : News h₀ L h (x :: r) := fun p hp => by
  rcases List.mem_cons.mp hp with rfl | hp
  · exact N _ (.head _)
  · exact N _ (.tail _ (.tail _ hp))
theorem News.drop1 {h₀ h : Heap} {L : Addr} {x : Addr × Obj} {r : List (Addr × Obj)} (N : News h₀ L h (x :: r)) : News h₀ L h r := fun p hp => N _ (.tail _ hp)
theorem fdiv_ten {a l : Int} (h0 : 1 ≤ l) (h1 : l ≤ 9) : (-(10 * a + l)).fdiv 10 = -1 - a := by
  rw [Int.fdiv_eq_ediv_of_nonneg _ (by decide)]; omega
theorem fmod_ten {a l : Int} (h0 : 1 ≤ l) (h1 : l ≤ 9) : (-(10 * a + l)).fmod 10 = 10 - l := by
  rw [Int.fmod_eq_emod_of_nonneg _ (by decide)]; omega
theorem refs_snoc (Ts : List Addr) (D : Addr) : Ts.map Value.ref ++ [Value.ref D] = (Ts ++ [D]).map Value.ref := by rw [List.map_append]; rfl
/-- two new tuples of the same two ints are not unlike -/
theorem tup_ne_ints {prog : Program} {w : World} {A : Around} {E : Value → Shared → Prop} {s : Shared} {h₀ : Heap} {L T1 T2 : Addr} {news : List (Addr × Obj)} {b c : Int} {t u t' u' : Tok} {Q : Value → Shared → Prop} (N : News h₀ L s.heap news)
    (h1 : (T1, ({ cls := .type "tuple", data := .seq #[.int b t, .int c u] } : Obj)) ∈ news) (h2 : (T2, ({ cls := .type "tuple", data := .seq #[.int b t', .int c u'] } : Obj)) ∈ news) (hu : A.units + 64 < cLine) (h : Q (.bool false) s) :
    wpAny (model prog w) A (compareOp .NotEq (.ref T1) (.ref T2)) Q E s := by
  have hs : SeqAt.shaped (.tuple [.int b, .int c]) = true := by
    simp [SeqAt.shaped, PyData.canLay0, PyData.canLayAll0, PyData.depth, PyData.depthAll]
  refine ne_dataH (reads_tuple_at (N _ h1).1 rfl rfl (ReadsAll.cons (Reads.int _ _) (ReadsAll.cons (Reads.int _ _) ReadsAll.nil))) (reads_tuple_at (N _ h2).1 rfl rfl (ReadsAll.cons (Reads.int _ _) (ReadsAll.cons (Reads.int _ _) ReadsAll.nil))) hs hs hu ?_
  have e : PyData.eqv (.tuple [.int b, .int c]) (.tuple [.int b, .int c]) = true := by simp [PyData.eqv, PyData.eqvAll]
  rw [e]
  exact h
theorem gen_tup {g h : Heap} {L T : Addr} {b c : Int} {u1 u2 : Tok} {r : Led} {P : Prop} (N : News g L h ((T, { cls := .type "tuple", data := .seq #[.int b u1, .int c u2] }) :: r)) (k : ∀ v1 v2, News g L h ((T, { cls := .type "tuple", data := .seq #[.int b v1, .int c v2] }) :: r) → P) : P := k u1 u2 N
/-- the tree after i turns -/
structure TrSt (w : World) (ws : List (Int × Int × Int)) (ow tl t : Led) (NM TR : Addr) (nv : List Value) (Ts : List Addr) (i : Nat) : Prop where
  tab : TabsOn w t
  sub : ∀ q ∈ ow, q ∈ tl
  nn : ∀ q ∈ tl, q.1 ∉ t.map (·.1)
  oN : ∀ q ∈ tl ++ t, q.1 ≠ NM ∧ q.1 ≠ TR
  lenN : nv.length = i + 1
  nvs : ∀ j, j < i + 1 → ∃ t, nv[j]? = some (.str (wordS ws j) t)
  lenT : Ts.length = i
  tup : ∀ h : Heap, (∀ q ∈ tl, h.get? q.1 = some q.2) → ∀ j, j < i → ∃ t u, IsTup h (Ts.getD j 0) #[.int (ws.getD j (0, 0, 0)).1 t, .int (ws.getD j (0, 0, 0)).2.1 u]
  fil : 0 < i → FilT w t
theorem TrSt.oN' {w : World} {ws : List (Int × Int × Int)} {ow tl t t' : Led} {NM TR : Addr} {nv : List Value} {Ts : List Addr} {i : Nat} {g : Heap} {oN oT : Obj} (st : TrSt w ws ow tl t NM TR nv Ts i)
    (ht : TabsTo w t g t') (hN : g.get? NM = some oN) (hT : g.get? TR = some oT) : ∀ q ∈ tl ++ t', q.1 ≠ NM ∧ q.1 ≠ TR := fun q hq => by
  rcases List.mem_append.mp hq with hq | hq
  · exact st.oN q (List.mem_append_left _ hq)
  · rcases ht.2.1 q hq with h | h
    · obtain ⟨r, hr, e⟩ := List.mem_map.mp h
      rw [← e]; exact st.oN r (List.mem_append_right _ hr)
    · exact ⟨fun e => (by rw [e, hN] at h; cases h), fun e => (by rw [e, hT] at h; cases h)⟩
theorem TrSt.next {w : World} {ws : List (Int × Int × Int)} {ow tl t t' : Led} {NM TR T : Addr} {nv : List Value} {Ts : List Addr} {i : Nat} {a l : Int} {u1 u2 u3 : Tok} {g : Heap} (st : TrSt w ws ow tl t NM TR nv Ts i)
    (ht : TabsTo w t g t') (hf : FilT w t') (hoN : ∀ q ∈ tl ++ t', q.1 ≠ NM ∧ q.1 ≠ TR) (hl : ∀ q ∈ tl, ∃ o, g.get? q.1 = some o) (hTN : T ≠ NM) (hTT : T ≠ TR) (hTt : ∀ q ∈ t', q.1 ≠ T) (ha : (ws.getD i (0, 0, 0)).1 = a) (hb : (ws.getD i (0, 0, 0)).2.1 = l) :
    TrSt w ws ow ((T, { cls := .type "tuple", data := .seq #[.int a u1, .int l u2] }) :: tl) t' NM TR (nv ++ [.str (wordS ws (i + 1)) u3]) (Ts ++ [T]) (i + 1) where
  tab := hf.on
  sub := fun q hq => .tail _ (st.sub q hq)
  nn := by
    refine List.forall_mem_cons.mpr ⟨notin_of hTt, fun q hq e => ?_⟩
    obtain ⟨r, hr, e⟩ := List.mem_map.mp e
    rcases ht.2.1 r hr with h | h
    · exact st.nn q hq (e ▸ h)
    · obtain ⟨o, ho⟩ := hl q hq
      rw [e, ho] at h; cases h
  oN := by
    exact List.forall_mem_cons.mpr ⟨⟨hTN, hTT⟩, hoN⟩
  lenN := by rw [List.length_append, st.lenN]; rfl
  nvs := fun j hj => by
    by_cases h : j < i + 1
    · rw [List.getElem?_append_left (by rw [st.lenN]; exact h)]; exact st.nvs j h
    · obtain rfl : j = i + 1 := by omega
      exact ⟨u3, by rw [List.getElem?_append_right (by rw [st.lenN]; exact Nat.le_refl _), st.lenN, Nat.sub_self]; rfl⟩
  lenT := by rw [List.length_append, st.lenT]; rfl
  tup := fun h hh j hj => by
    by_cases h1 : j < i
    · obtain ⟨t, u, e⟩ := st.tup h (fun q hq => hh q (.tail _ hq)) j h1
      refine ⟨t, u, ?_⟩
      rw [List.getD_eq_getElem?_getD, List.getElem?_append_left (by rw [st.lenT]; exact h1), ← List.getD_eq_getElem?_getD]
      exact e
    · obtain rfl : j = i := by omega
      refine ⟨u1, u2, ?_⟩
      rw [List.getD_eq_getElem?_getD, List.getElem?_append_right (by rw [st.lenT]; exact Nat.le_refl _), st.lenT, Nat.sub_self, ha, hb]
      exact ⟨_, hh _ (.head _), rfl, _, rfl⟩
  fil := fun _ => hf
end Mine

-- FH4
open PySem PySem.W PyProof.Rows PyProof
set_option Elab.async false
set_option maxRecDepth 100000
set_option maxHeartbeats 8000000
set_option pp.deepTerms false
set_option pp.deepTerms.threshold 6
set_option rowWalk.seconds 0
namespace Mine

theorem way_of {k x y z b : Int} (hb : b = k + 1) (hk : 0 ≤ k) : 0 ≤ x.fmod b ∧ x.fmod b ≤ k ∧ 1 ≤ 1 + y.fmod 2 ∧ 1 + y.fmod 2 ≤ 2 ∧ 0 ≤ z.fmod 2 ∧ z.fmod 2 ≤ 1 := by
  have h1 := Int.fmod_nonneg_of_pos x (b := b) (by omega)
  have h2 := Int.fmod_lt_of_pos x (b := b) (by omega)
  have h3 := Int.fmod_nonneg_of_pos y (b := 2) (by decide)
  have h4 := Int.fmod_lt_of_pos y (b := 2) (by decide)
  have h5 := Int.fmod_nonneg_of_pos z (b := 2) (by decide)
  have h6 := Int.fmod_lt_of_pos z (b := 2) (by decide)
  exact ⟨by omega, by omega, by omega, by omega, by omega, by omega⟩
noncomputable abbrev tup3 (a l q : Int) (ta tl tq : Tok) : Obj := { cls := .type "tuple", data := .seq #[.int a ta, .int l tl, .int q tq] }
theorem gen_way {g h : Heap} {L T : Addr} {k a l q : Int} {u1 u2 u3 : Tok} {r : List (Addr × Obj)} {P : Prop} (N : News g L h ((T, tup3 a l q u1 u2 u3) :: r)) (hg : 0 ≤ a ∧ a ≤ k ∧ 1 ≤ l ∧ l ≤ 2 ∧ 0 ≤ q ∧ q ≤ 1) (c : ∀ a l q v1 v2 v3, News g L h ((T, tup3 a l q v1 v2 v3) :: r) → (0 ≤ a ∧ a ≤ k ∧ 1 ≤ l ∧ l ≤ 2 ∧ 0 ≤ q ∧ q ≤ 1) → P) : P := c a l q u1 u2 u3 N hg
/-- the ways after i turns: their tuples on tl -/
structure WaySt (tl : Led) (Ts : List Addr) (ws : List (Int × Int × Int)) (i : Nat) : Prop where
  lenT : Ts.length = i
  lenW : ws.length = i
  good : ∀ j, j < i → 0 ≤ (ws.getD j (0, 0, 0)).1 ∧ (ws.getD j (0, 0, 0)).1 ≤ j ∧ 1 ≤ (ws.getD j (0, 0, 0)).2.1 ∧ (ws.getD j (0, 0, 0)).2.1 ≤ 2 ∧ 0 ≤ (ws.getD j (0, 0, 0)).2.2 ∧ (ws.getD j (0, 0, 0)).2.2 ≤ 1
  tup : ∀ h : Heap, (∀ q ∈ tl, h.get? q.1 = some q.2) → ∀ j, j < i → ∃ t u v, IsTup h (Ts.getD j 0) #[.int (ws.getD j (0, 0, 0)).1 t, .int (ws.getD j (0, 0, 0)).2.1 u, .int (ws.getD j (0, 0, 0)).2.2 v]
theorem getD_lt {α : Type} {l : List α} {x d : α} {j i : Nat} (h : l.length = i) (hj : j < i) : (l ++ [x]).getD j d = l.getD j d := by
  rw [List.getD_eq_getElem?_getD, List.getElem?_append_left (by omega), List.getD_eq_getElem?_getD]
theorem getD_new {α : Type} {l : List α} {x d : α} {i : Nat} (h : l.length = i) : (l ++ [x]).getD i d = x := by
  rw [List.getD_eq_getElem?_getD, List.getElem?_append_right (by omega), h, Nat.sub_self]; rfl
theorem WaySt.next {tl : Led} {Ts : List Addr} {ws : List (Int × Int × Int)} {i : Nat} {T : Addr} {a l q : Int} {u1 u2 u3 : Tok} (st : WaySt tl Ts ws i) (hg : 0 ≤ a ∧ a ≤ i ∧ 1 ≤ l ∧ l ≤ 2 ∧ 0 ≤ q ∧ q ≤ 1) : WaySt ((T, tup3 a l q u1 u2 u3) :: tl) (Ts ++ [T]) (ws ++ [(a, l, q)]) (i + 1) where
  lenT := by rw [List.length_append, st.lenT]; rfl
  lenW := by rw [List.length_append, st.lenW]; rfl
  good := fun j hj => by
    by_cases h : j < i
    · rw [getD_lt st.lenW h]; exact st.good j h
    · obtain rfl : j = i := by omega
      rw [getD_new st.lenW]; exact hg
  tup := fun h hh j hj => by
    by_cases h1 : j < i
    · rw [getD_lt st.lenW h1, getD_lt st.lenT h1]
      exact st.tup h (fun q hq => hh q (.tail _ hq)) j h1
    · obtain rfl : j = i := by omega
      rw [getD_new st.lenW, getD_new st.lenT]
      exact ⟨u1, u2, u3, _, hh _ (.head _), rfl, _, rfl⟩
/-- new ways, on the ledger led -/
noncomputable def NewWays : Heap → Value → Heap → Prop := fun h v h' => ∃ (D : Addr) (ws : List (Int × Int × Int)) (led : List (Addr × Obj)), v = .ref D ∧ GoodWays ws ∧ (∀ q ∈ led, h.get? q.1 = none ∧ h'.get? q.1 = some q.2) ∧ ∀ H : Heap, (∀ q ∈ led, H.get? q.1 = some q.2) → WaysIn H D ws

theorem ways_ok {w : World} {p : Program} {loose : List Str} {mean : ExcName → Option Value} {mg mb : Str → Option Value} (D : Addr) (us : List Value) (bs : List Int) :
  Pure PySem.Challenge.rw_rs0157_01.prog w (hd1.heap_1 w.params) p loose mean mg mb 128 4 30 [.ref D] (fun h => h.IsList D us.toArray ∧ IntsAre us bs ∧ bs.length ≤ 63) NewWays := by
  k_fill
  k_with_none
  w_top off
  intro dp un gd cn cs a ccd cl outer A₀ base h₀ L m s Q E hB hF hX hT hcs hdp hun hpre hret
  refine wpAny_call ?_
  ((k_dflt (refine' code_pure ?k1 ?k2 ?k3 ?k5 ?kA ?kF ?kK ?k6 ?k7 ?k8 ?k9 ?kB ?_ ?c2 ?c3 ?c4 ?c5; (case kA => exact rfl); (case kF => exact rfl); (case kK => assumption); (case k1 => k_asm); (case k2 => k_asm); (case k3 => k_asm); (case k5 => k_asm); (case k6 => k_is); (case k7 => k_is); (case k8 => (show _ < _; dsimp only; omega)); (case k9 => exact BindsTo.of_eq rfl); (case c5 => decide); (case kB => exact locs rfl); (case c2 => exact rfl); (case c3 => exact rfl); (case c4 => exact rfl); k_whole)))
  intro g L' h₁ hg F' N' B' X' T'
  (try dsimp only); (try k_fold)
  obtain ⟨hl, hI, hlen⟩ := hpre
  rw [← hg] at hl
  have hIl := hI.length
  (repeat' ((fail_if_success (with_reducible show wpAny _ _ (exec (Stmt.For _ _ _ _ _) _) _ _ _)); (fail_if_success (with_reducible show wpAny _ _ (pyIter _) _ _ _)); (fail_if_success (with_reducible show wpAny _ _ (subscriptTail (PySem.Expr.Name (Str.ofString "script") _) (PySem.Expr.Slice _ _ _ _) _ _) _ _ _)); (fail_if_success (with_reducible show wpAny _ _ (PySem.call (Value.builtin "sum") _) _ _ _)); (fail_if_success (with_reducible show wpAny _ _ (PySem.call (Value.builtin "list.append") _) _ _ _)); (fail_if_success (with_reducible show wpAny _ _ (newList []) _ _ _)); (fail_if_success (with_reducible show UnrEnd _ _ _ _ _ _ _)); first | (k_unfold; (try dsimp only)) | walk1 | (dsimp only; walk1) | (leave1; try dsimp only)))
  rename Fr g L' _ _ => FF
  rename News g L' _ _ => NN
  refine newList_K FF NN (fun W h1 F1 N1 l1 => ?_) (by decide)
  clear FF NN l1
  (repeat' ((fail_if_success (with_reducible show wpAny _ _ (exec (Stmt.For _ _ _ _ _) _) _ _ _)); (fail_if_success (with_reducible show wpAny _ _ (pyIter _) _ _ _)); (fail_if_success (with_reducible show wpAny _ _ (subscriptTail (PySem.Expr.Name (Str.ofString "script") _) (PySem.Expr.Slice _ _ _ _) _ _) _ _ _)); (fail_if_success (with_reducible show wpAny _ _ (PySem.call (Value.builtin "sum") _) _ _ _)); (fail_if_success (with_reducible show wpAny _ _ (PySem.call (Value.builtin "list.append") _) _ _ _)); (fail_if_success (with_reducible show wpAny _ _ (newList []) _ _ _)); (fail_if_success (with_reducible show UnrEnd _ _ _ _ _ _ _)); first | (k_unfold; (try dsimp only)) | walk1 | (dsimp only; walk1) | (leave1; try dsimp only)))
  rename Fr g L' _ _ => FF
  obtain ⟨n, hpk, hle⟩ : ∃ n : Nat, Stop ((3 : Int) + (bs.length : Int).fmod 2 = n ∧ (n = 3 ∨ n = 4)) ∧ n ≤ 60 := by
    have h1 := Int.fmod_nonneg_of_pos (bs.length : Int) (b := 2) (by decide)
    have h2 := Int.fmod_lt_of_pos (bs.length : Int) (b := 2) (by decide)
    exact ⟨(3 + (bs.length : Int).fmod 2).toNat, ⟨by omega, by omega⟩, by omega⟩
  have hq : (3 : Int) + (bs.length : Int).fmod 2 = n ∧ (n = 3 ∨ n = 4) := hpk
  rw [hq.1] at FF
  clear hq
  with_unfolding_all refine' For_invVF FF ?k1 ?k2 ?_
  case k1 => exact rfl
  case k2 => exact rfl
  (repeat' ((fail_if_success (with_reducible show wpAny _ _ (exec (Stmt.For _ _ _ _ _) _) _ _ _)); (fail_if_success (with_reducible show wpAny _ _ (pyIter _) _ _ _)); (fail_if_success (with_reducible show wpAny _ _ (subscriptTail (PySem.Expr.Name (Str.ofString "script") _) (PySem.Expr.Slice _ _ _ _) _ _) _ _ _)); (fail_if_success (with_reducible show wpAny _ _ (PySem.call (Value.builtin "sum") _) _ _ _)); (fail_if_success (with_reducible show wpAny _ _ (PySem.call (Value.builtin "list.append") _) _ _ _)); (fail_if_success (with_reducible show wpAny _ _ (newList []) _ _ _)); (fail_if_success (with_reducible show UnrEnd _ _ _ _ _ _ _)); first | (k_unfold; (try dsimp only)) | walk1 | (dsimp only; walk1) | (leave1; try dsimp only)))
  rename Fr g L' _ _ => FF
  rename News g L' _ _ => NN
  rename IsRange _ _ _ _ _ _ _ _ => hRg
  have hn34 : n = 3 ∨ n = 4 := hpk.2
  clear hpk hle
  have hrs : Builtin.Range.rangeSize 0 (n : Int) 1 = (n : Int) := by rw [rangeSize_nat]; omega
  have hsm : Builtin.Range.small 0 (n : Int) 1 = true := small_range (by omega) (by omega) (by omega) (by omega)
  refine iter_rangeUnr (n := n) (by rfl) hRg hsm hrs FF NN fun I l1 => range_ind (fun i m news => m (Str.ofString "script") = some (.ref D) ∧ m (Str.ofString "ways") = some (.ref W) ∧ (∃ tc, m (Str.ofString "count") = some (.int n tc)) ∧ ∃ (Ts : List Addr) (ws : List (Int × Int × Int)) (kt : Nat) (tl : List (Addr × Obj)), news = (W, listOf (Ts.map Value.ref).toArray kt) :: tl ∧ WaySt tl Ts ws i ∧ ∀ q ∈ tl, q.1 ≠ W ∧ q.1 ≠ I) n ?_ ?_ n 0 _ _ (Nat.zero_add _) ?_
  · have hIW : I ≠ W := Nat.ne_of_gt (l1 _ (.head _))
    clear FF NN hRg l1 hsm hrs
    intro i m news hi hJ t h tk F N
    obtain ⟨m1, m2, ⟨tc, m3⟩, Ts, ws, kt, tl, rfl, st, htl⟩ := hJ
    rw [show (0 : Int) + (i : Int) = i from Int.zero_add _] at F
    have ne : ∀ x : Str, x ≠ Str.ofString "k" → ∀ v, m x = some v → (if x = Str.ofString "k" then some (Value.int (i : Int) t) else m x) = some v := fun x h v e => (if_neg h).trans e
    obtain ⟨u9, F'⟩ := Fr.norm [(Str.ofString "script", .ref D), (Str.ofString "ways", .ref W), (Str.ofString "count", .int n tc), (Str.ofString "k", .int (i : Int) t)] F (List.forall_mem_cons.mpr ⟨ne (Str.ofString "script") (by decide) _ m1, List.forall_mem_cons.mpr ⟨ne (Str.ofString "ways") (by decide) _ m2, List.forall_mem_cons.mpr ⟨ne (Str.ofString "count") (by decide) _ m3, List.forall_mem_cons.mpr ⟨if_pos rfl, List.forall_mem_nil _⟩⟩⟩⟩)
    clear F ne m1 m2 m3
    dsimp only [kstB] at F'
    (try dsimp only); (try k_fold)
    (repeat' ((fail_if_success (with_reducible show wpAny _ _ (exec (Stmt.For _ _ _ _ _) _) _ _ _)); (fail_if_success (with_reducible show wpAny _ _ (pyIter _) _ _ _)); (fail_if_success (with_reducible show wpAny _ _ (subscriptTail (PySem.Expr.Name (Str.ofString "script") _) (PySem.Expr.Slice _ _ _ _) _ _) _ _ _)); (fail_if_success (with_reducible show wpAny _ _ (PySem.call (Value.builtin "sum") _) _ _ _)); (fail_if_success (with_reducible show wpAny _ _ (PySem.call (Value.builtin "list.append") _) _ _ _)); (fail_if_success (with_reducible show wpAny _ _ (newList []) _ _ _)); (fail_if_success (with_reducible show UnrEnd _ _ _ _ _ _ _)); first | (k_unfold; (try dsimp only)) | walk1 | (dsimp only; walk1) | (leave1; try dsimp only)))
    rename Fr g L' _ _ => FF
    rename News g L' _ _ => NN
    refine slice_list3 (st := some (n : Int)) FF NN (stays_list FF.keep hl) (.int _ _) .none (.int _ _) (fun e => by have e := Option.some.inj e; omega) (fun h2 F2 N2 => ?_) (hsz := by rw [List.size_toArray, hIl, PySem.sizeLine_eq]; omega)
    clear FF NN
    (repeat' ((fail_if_success (with_reducible show wpAny _ _ (exec (Stmt.For _ _ _ _ _) _) _ _ _)); (fail_if_success (with_reducible show wpAny _ _ (pyIter _) _ _ _)); (fail_if_success (with_reducible show wpAny _ _ (subscriptTail (PySem.Expr.Name (Str.ofString "script") _) (PySem.Expr.Slice _ _ _ _) _ _) _ _ _)); (fail_if_success (with_reducible show wpAny _ _ (PySem.call (Value.builtin "sum") _) _ _ _)); (fail_if_success (with_reducible show wpAny _ _ (PySem.call (Value.builtin "list.append") _) _ _ _)); (fail_if_success (with_reducible show wpAny _ _ (newList []) _ _ _)); (fail_if_success (with_reducible show UnrEnd _ _ _ _ _ _ _)); first | (k_unfold; (try dsimp only)) | walk1 | (dsimp only; walk1) | (leave1; try dsimp only)))
    refine sum_pick (by rfl) F2 N2 (.head _) hI fun h3 tk3 t3 F3 N3 => ?_
    have N4 : News g L' h3 ((I, itR ((0 : Int) + ((i + 1 : Nat) : Int)) ((n : Int) - ((i + 1 : Nat) : Int))) :: (W, listOf (Ts.map Value.ref).toArray kt) :: tl) := fun q hq => N3 q (.tail _ hq)
    clear F2 N2 N3
    obtain ⟨sm, hsm9⟩ : ∃ sm, sm = (pickI bs (some (i : Int)) none (some (n : Int))).sum := ⟨_, rfl⟩
    rw [← hsm9]
    clear hsm9
    (repeat' ((fail_if_success (with_reducible show wpAny _ _ (exec (Stmt.For _ _ _ _ _) _) _ _ _)); (fail_if_success (with_reducible show wpAny _ _ (pyIter _) _ _ _)); (fail_if_success (with_reducible show wpAny _ _ (subscriptTail (PySem.Expr.Name (Str.ofString "script") _) (PySem.Expr.Slice _ _ _ _) _ _) _ _ _)); (fail_if_success (with_reducible show wpAny _ _ (PySem.call (Value.builtin "sum") _) _ _ _)); (fail_if_success (with_reducible show wpAny _ _ (PySem.call (Value.builtin "list.append") _) _ _ _)); (fail_if_success (with_reducible show wpAny _ _ (newList []) _ _ _)); (fail_if_success (with_reducible show UnrEnd _ _ _ _ _ _ _)); first | (k_unfold; (try dsimp only)) | walk1 | (dsimp only; walk1) | (leave1; try dsimp only)))
    rename Fr g L' _ _ => FF
    rename News g L' _ _ => NN
    rename (I < _ ∧ W < _ ∧ AllLt _ tl) => hl9
    refine gen_way NN (way_of (k := (i : Int)) rfl (by omega)) fun a l q v1 v2 v3 NN hg3 => ?_
    refine append_K FF NN (Upd.tail (Nat.ne_of_gt hl9.2.1) (Upd.tail hIW (Upd.head fun q hq => (htl q hq).1))) (fun h9 F9 N9 => ?_) (by rw [List.size_toArray, List.length_map, st.lenT, PySem.sizeLine_eq]; omega)
    rw [List.push_toArray, refs_snoc] at N9
    clear FF NN
    (repeat' ((fail_if_success (with_reducible show wpAny _ _ (exec (Stmt.For _ _ _ _ _) _) _ _ _)); (fail_if_success (with_reducible show wpAny _ _ (pyIter _) _ _ _)); (fail_if_success (with_reducible show wpAny _ _ (subscriptTail (PySem.Expr.Name (Str.ofString "script") _) (PySem.Expr.Slice _ _ _ _) _ _) _ _ _)); (fail_if_success (with_reducible show wpAny _ _ (PySem.call (Value.builtin "sum") _) _ _ _)); (fail_if_success (with_reducible show wpAny _ _ (PySem.call (Value.builtin "list.append") _) _ _ _)); (fail_if_success (with_reducible show wpAny _ _ (newList []) _ _ _)); (fail_if_success (with_reducible show UnrEnd _ _ _ _ _ _ _)); first | (k_unfold; (try dsimp only)) | walk1 | (dsimp only; walk1) | (leave1; try dsimp only)))
    rename Fr g L' _ _ => FF
    rename News g L' _ _ => NN
    refine UnrEnd.intro FF NN ((W, listOf ((Ts ++ [_]).map Value.ref).toArray (kt + 1)) :: (_, tup3 a l q v1 v2 v3) :: tl) (List.forall_mem_cons.mpr ⟨.tail _ (.head _), List.forall_mem_cons.mpr ⟨.tail _ (.tail _ (.head _)), List.forall_mem_cons.mpr ⟨.head _, fun q hq => .tail _ (.tail _ (.tail _ hq))⟩⟩⟩) (List.forall_mem_cons.mpr ⟨Ne.symm hIW, List.forall_mem_cons.mpr ⟨Nat.ne_of_gt hl9.1, fun q hq => (htl q hq).2⟩⟩) ⟨rfl, rfl, ⟨tc, rfl⟩, Ts ++ [_], ws ++ [(a, l, q)], kt + 1, _, rfl, st.next hg3, List.forall_mem_cons.mpr ⟨⟨Nat.ne_of_gt hl9.2.1, Nat.ne_of_gt hl9.1⟩, htl⟩⟩
  · clear FF NN hRg hsm hrs
    intro m news hJ h tk F N
    obtain ⟨m1, m2, _, Ts, ws, kt, tl, rfl, st, _⟩ := hJ
    obtain ⟨u9, F'⟩ := Fr.norm [(Str.ofString "ways", .ref W)] F (List.forall_mem_cons.mpr ⟨m2, List.forall_mem_nil _⟩)
    clear F m1 m2
    dsimp only [kstB] at F'
    dsimp only
    (repeat' ((fail_if_success (with_reducible show wpAny _ _ (exec (Stmt.For _ _ _ _ _) _) _ _ _)); (fail_if_success (with_reducible show wpAny _ _ (pyIter _) _ _ _)); (fail_if_success (with_reducible show wpAny _ _ (subscriptTail (PySem.Expr.Name (Str.ofString "script") _) (PySem.Expr.Slice _ _ _ _) _ _) _ _ _)); (fail_if_success (with_reducible show wpAny _ _ (PySem.call (Value.builtin "sum") _) _ _ _)); (fail_if_success (with_reducible show wpAny _ _ (PySem.call (Value.builtin "list.append") _) _ _ _)); (fail_if_success (with_reducible show wpAny _ _ (newList []) _ _ _)); (fail_if_success (with_reducible show UnrEnd _ _ _ _ _ _ _)); first | (k_unfold; (try dsimp only)) | walk1 | (dsimp only; walk1) | (leave1; try dsimp only)))
    refine hret _ _ _ (stays_of hg F') ⟨W, ws, (W, listOf (Ts.map Value.ref).toArray kt) :: tl, rfl, ⟨by rw [st.lenW]; exact hn34, fun j hj => st.good j (by rw [← st.lenW]; exact hj)⟩, fun q hq => ⟨hg ▸ (N q hq).2.2, (N q hq).1⟩, fun H hH => ⟨Ts.map Value.ref, ⟨_, hH _ (.head _), rfl, _, rfl⟩, by rw [List.length_map, st.lenT, st.lenW], fun j hj => ?_⟩⟩
    rw [st.lenW] at hj
    obtain ⟨t, u, v, e⟩ := st.tup H (fun q hq => hH q (.tail _ hq)) j hj
    refine ⟨Ts.getD j 0, t, u, v, ?_, e⟩
    rw [List.getElem?_map, List.getD_eq_getElem?_getD, List.getElem?_eq_getElem (by rw [st.lenT]; exact hj)]
    rfl
  · exact ⟨rfl, rfl, ⟨_, rfl⟩, [], [], 0, [], rfl, ⟨rfl, rfl, fun j hj => absurd hj (Nat.not_lt_zero _), fun h _ j hj => absurd hj (Nat.not_lt_zero _)⟩, List.forall_mem_nil _⟩
end Mine

-- P20
open PySem PySem.W PyProof.Rows PyProof
set_option Elab.async false
set_option maxRecDepth 100000
set_option linter.unusedVariables false
namespace Mine
/-- a number told to the kernel before it is used -/
noncomputable def fcN (n : Nat) (k : Nat → Bool) : Bool := match n with
  | 0 => k 0
  | m + 1 => k (m + 1)
theorem fcN_eq (n : Nat) (k : Nat → Bool) : fcN n k = k n := by cases n <;> rfl
noncomputable def fcI (i : Int) (k : Int → Bool) : Bool := match i with
  | .ofNat n => fcN n fun n => k (.ofNat n)
  | .negSucc n => fcN n fun n => k (.negSucc n)
theorem fcI_eq (i : Int) (k : Int → Bool) : fcI i k = k i := by
  cases i
  · exact fcN_eq _ fun n => k (.ofNat n)
  · exact fcN_eq _ fun n => k (.negSucc n)
noncomputable def fcR (l : List Int) (k : List Int → Bool) : Bool := match l with
  | [] => k []
  | a :: r => fcI a fun a => fcR r fun r => k (a :: r)
theorem fcR_eq (l : List Int) (k : List Int → Bool) : fcR l k = k l := by
  induction l generalizing k with
  | nil => rfl
  | cons a r ih => unfold fcR; rw [fcI_eq, ih]
noncomputable def fcT (l : List (List Int)) (k : List (List Int) → Bool) : Bool := match l with
  | [] => k []
  | a :: r => fcR a fun a => fcT r fun r => k (a :: r)
theorem fcT_eq (l : List (List Int)) (k : List (List Int) → Bool) : fcT l k = k l := by
  induction l generalizing k with
  | nil => rfl
  | cons a r ih => unfold fcT; rw [fcR_eq, ih]
noncomputable def tabL (n : Nat) (f : Nat → Nat → Int) : List (List Int) := (List.range n).map fun x => (List.range n).map fun y => f x y
/-- the first two rows exchanged -/
noncomputable def swpT (T : Nat → Nat → Int) : Nat → Nat → Int := fun x y => T (if x = 0 then 1 else if x = 1 then 0 else x) y
noncomputable def sml (x : Int) : Bool := Nat.ble x.natAbs 1048576
/-- one row below the step: its first sign c, the rest q; top :: h the step's row -/
noncomputable def rowOk (top last c : Int) : List Int → List Int → Bool
  | a :: h, b :: q => fcI (Int.sub (Int.mul b top) (Int.mul c a)) fun v => Nat.beq (Int.natAbs (Int.fmod v last)) 0 && (sml (Int.fdiv v last) && rowOk top last c h q)
  | _, _ => true
noncomputable def rowNew (top last c : Int) : List Int → List Int → List Int
  | a :: h, b :: q => Int.fdiv (Int.sub (Int.mul b top) (Int.mul c a)) last :: rowNew top last c h q
  | _, _ => []
noncomputable def rowsOk (top last : Int) (h : List Int) : List (List Int) → Bool
  | (c :: q) :: rows => rowOk top last c h q && rowsOk top last h rows
  | _ => true
noncomputable def rowsNew (top last : Int) (h : List Int) : List (List Int) → List (List Int)
  | (c :: q) :: rows => rowNew top last c h q :: rowsNew top last h rows
  | _ => []
/-- the steps from the r-th on; M: what is left of the table -/
noncomputable def runM (ls : List Int) : Nat → Nat → Int → List (List Int) → Bool
  | 0, _, _, _ => true
  | k + 1, r, last, (top :: h) :: rows => (Nat.blt r 2 || Nat.beq (Int.natAbs (Int.sub top (stepF (ls.take r)))) 0) && (rows.isEmpty || !(Nat.beq (Int.natAbs top) 0)) && rowsOk top last h rows && fcT (rowsNew top last h rows) fun M => runM ls k (r + 1) top M
  | _ + 1, _, _, _ => false
noncomputable def treeOk (tr : List (Int × Int)) : Bool := fcT (tabL (tr.length + 1) (swpT (dueT tr))) fun T => (T.all fun row => row.all sml) && runM (tr.map (·.2)) (tr.length + 1) 0 1 T
noncomputable def trees3 : List (List (Int × Int)) := [1, 2].flatMap fun l0 => [0, 1].flatMap fun a1 => [1, 2].flatMap fun l1 => [0, 1, 2].flatMap fun a2 => [1, 2].map fun l2 => [(0, l0), (a1, l1), (a2, l2)]
noncomputable def ext (a l : Int) : List (List (Int × Int)) := trees3.map fun t => t ++ [(a, l)]
theorem trees3_ok : trees3.all treeOk = true := by decide +kernel
theorem ext_01 : (ext 0 1).all treeOk = true := by decide +kernel
theorem ext_02 : (ext 0 2).all treeOk = true := by decide +kernel
theorem ext_11 : (ext 1 1).all treeOk = true := by decide +kernel
theorem ext_12 : (ext 1 2).all treeOk = true := by decide +kernel
theorem ext_21 : (ext 2 1).all treeOk = true := by decide +kernel
theorem ext_22 : (ext 2 2).all treeOk = true := by decide +kernel
theorem ext_31 : (ext 3 1).all treeOk = true := by decide +kernel
theorem ext_32 : (ext 3 2).all treeOk = true := by decide +kernel
theorem ext_ok {a l : Int} (h0 : 0 ≤ a) (h1 : a ≤ 3) (h2 : 1 ≤ l) (h3 : l ≤ 2) : (ext a l).all treeOk = true := by
  have ha : a = 0 ∨ a = 1 ∨ a = 2 ∨ a = 3 := by omega
  have hl : l = 1 ∨ l = 2 := by omega
  rcases hl with rfl | rfl
  · rcases ha with rfl | rfl | rfl | rfl
    · exact ext_01
    · exact ext_11
    · exact ext_21
    · exact ext_31
  · rcases ha with rfl | rfl | rfl | rfl
    · exact ext_02
    · exact ext_12
    · exact ext_22
    · exact ext_32
end Mine

-- P25
open PySem PySem.W PyProof.Rows PyProof
set_option Elab.async false
set_option maxRecDepth 100000
set_option linter.unusedVariables false
namespace Mine
theorem rowNew_len (top last c : Int) : ∀ h q : List Int, h.length = q.length → (rowNew top last c h q).length = h.length
  | [], [], _ => rfl
  | a :: h, b :: q, e => congrArg (· + 1) (rowNew_len top last c h q (Nat.succ.inj e))
  | [], _ :: _, e => by cases e
  | _ :: _, [], e => by cases e
theorem rowNew_at (top last c : Int) : ∀ (h q : List Int) (y : Nat), h.length = q.length → y < h.length → (rowNew top last c h q).getD y 0 = (q.getD y 0 * top - c * h.getD y 0).fdiv last
  | a :: h, b :: q, 0, _, _ => rfl
  | a :: h, b :: q, y + 1, e, hy => rowNew_at top last c h q y (Nat.succ.inj e) (Nat.lt_of_succ_lt_succ hy)
  | [], _, y, _, hy => absurd hy (Nat.not_lt_zero y)
  | _ :: _, [], _, e, _ => by cases e
theorem beq0 {x : Int} (h : Nat.beq x.natAbs 0 = true) : x = 0 := Int.natAbs_eq_zero.mp (Nat.eq_of_beq_eq_true h)
theorem sml_bd {x : Int} (h : sml x = true) : -(2 ^ 20) ≤ x ∧ x ≤ 2 ^ 20 := by
  have := Nat.le_of_ble_eq_true h
  omega
theorem rowOk_at (top last c : Int) : ∀ (h q : List Int) (y : Nat), rowOk top last c h q = true → h.length = q.length → y < h.length → (q.getD y 0 * top - c * h.getD y 0).fmod last = 0 ∧ -(2 ^ 20) ≤ (q.getD y 0 * top - c * h.getD y 0).fdiv last ∧ (q.getD y 0 * top - c * h.getD y 0).fdiv last ≤ 2 ^ 20
  | a :: h, b :: q, y, o, e, hy => by
    rw [rowOk, fcI_eq, Bool.and_eq_true, Bool.and_eq_true] at o
    cases y with
    | zero => exact ⟨beq0 o.1, sml_bd o.2.1⟩
    | succ y => exact rowOk_at top last c h q y o.2.2 (Nat.succ.inj e) (Nat.lt_of_succ_lt_succ hy)
  | [], _, y, _, _, hy => absurd hy (Nat.not_lt_zero y)
  | _ :: _, [], _, _, e, _ => by cases e
theorem rowsNew_at (top last : Int) (h : List Int) : ∀ rows : List (List Int), (∀ row ∈ rows, row.length = h.length + 1) → (rowsNew top last h rows).length = rows.length ∧ ∀ x, x < rows.length → (rowsNew top last h rows).getD x [] = rowNew top last ((rows.getD x []).getD 0 0) h (rows.getD x []).tail
  | [], _ => ⟨rfl, fun x hx => absurd hx (Nat.not_lt_zero x)⟩
  | [] :: rows, e => by cases e [] (.head _)
  | (c :: q) :: rows, e => by
    obtain ⟨h1, h2⟩ := rowsNew_at top last h rows fun row hr => e row (.tail _ hr)
    refine ⟨congrArg (· + 1) h1, fun x hx => ?_⟩
    cases x with
    | zero => rfl
    | succ x => exact h2 x (Nat.lt_of_succ_lt_succ hx)
theorem rowsOk_at (top last : Int) (h : List Int) : ∀ rows : List (List Int), rowsOk top last h rows = true → (∀ row ∈ rows, row.length = h.length + 1) → ∀ x, x < rows.length → rowOk top last ((rows.getD x []).getD 0 0) h (rows.getD x []).tail = true
  | [], _, _, x, hx => absurd hx (Nat.not_lt_zero x)
  | [] :: rows, _, e, _, _ => by cases e [] (.head _)
  | (c :: q) :: rows, o, e, x, hx => by
    rw [rowsOk, Bool.and_eq_true] at o
    cases x with
    | zero => exact o.1
    | succ x => exact rowsOk_at top last h rows o.2 (fun row hr => e row (.tail _ hr)) x (Nat.lt_of_succ_lt_succ hx)
/-- the table and the last step's number before the r-th step -/
noncomputable def stT (T0 : Nat → Nat → Int) : Nat → (Nat → Nat → Int) × Int
  | 0 => (T0, 1)
  | r + 1 => (newT (stT T0 r).1 r (stT T0 r).2, (stT T0 r).1 r r)
structure StepOk (n r : Nat) (last : Int) (ls : List Int) (T : Nat → Nat → Int) : Prop where
  top : 2 ≤ r → T r r = stepF (ls.take r)
  nz : r + 1 < n → T r r ≠ 0
  bd : ∀ x y, x < n → y < n → -(2 ^ 20) ≤ T x y ∧ T x y ≤ 2 ^ 20
  ex : 0 < r → ∀ x y, r < x → x < n → r < y → y < n → (T x y * T r r - T x r * T r y).fmod last = 0
/-- M holds T from the r-th row and column on -/
structure Sub (M : List (List Int)) (r n : Nat) (T : Nat → Nat → Int) : Prop where
  len : M.length + r = n
  row : ∀ x, x + r < n → (M.getD x []).length + r = n ∧ ∀ y, y + r < n → (M.getD x []).getD y 0 = T (r + x) (r + y)
theorem tail_at (l : List Int) (y : Nat) : l.tail.getD y 0 = l.getD (y + 1) 0 := by
  cases l <;> rfl
theorem newT_in {T : Nat → Nat → Int} {r x y : Nat} {last : Int} (h0 : r = 0 → last = 1) : newT T r last (r + 1 + x) (r + 1 + y) = (T (r + 1 + x) (r + 1 + y) * T r r - T (r + 1 + x) r * T r (r + 1 + y)).fdiv last := by
  unfold newT
  rw [if_pos ⟨Nat.lt_of_lt_of_le (Nat.lt_succ_self r) (Nat.le_add_right _ _), Nat.lt_of_lt_of_le (Nat.lt_succ_self r) (Nat.le_add_right _ _)⟩]
  split
  · rw [h0 (by assumption), Int.fdiv_one]
  · rfl
theorem nn1 {a r m : Nat} (h : a + 1 + r = r + 1 + m) : a = m := by omega
theorem nn2 {a r m : Nat} (h : a + r = r + 1 + m) : a = m + 1 := by omega
theorem nn3 {x r m : Nat} (h : x < m) : x + 1 + r < r + 1 + m := by omega
theorem nn4 (r x : Nat) : r + (x + 1) = r + 1 + x := by omega
theorem nn5 (r m : Nat) : 0 + r < r + 1 + m := by omega
theorem nn6 {x r m : Nat} (h : x + (r + 1) < r + 1 + m) : x < m := by omega
theorem nn7 {x r m : Nat} (h : r < x) (h2 : x < r + 1 + m) : ∃ z, x = r + 1 + z ∧ z < m := ⟨x - (r + 1), by omega, by omega⟩
/-- what the first row and column of M hold, and the rest -/
structure Cells (top : Int) (h : List Int) (rows : List (List Int)) (r m : Nat) (T : Nat → Nat → Int) : Prop where
  top : top = T r r
  lr : rows.length = m
  lh : h.length = m
  ll : ∀ x, x < m → (rows.getD x []).length = h.length + 1
  c0 : ∀ x, x < m → (rows.getD x []).getD 0 0 = T (r + 1 + x) r
  ct : ∀ x y, x < m → y < m → (rows.getD x []).tail.getD y 0 = T (r + 1 + x) (r + 1 + y)
  hd : ∀ y, y < m → h.getD y 0 = T r (r + 1 + y)
theorem Sub.cells {top : Int} {h : List Int} {rows : List (List Int)} {r m : Nat} {T : Nat → Nat → Int} (s : Sub ((top :: h) :: rows) r (r + 1 + m) T) : Cells top h rows r m T := by
  have z0 := s.row 0 (nn5 r m)
  have lr : rows.length = m := nn1 s.len
  have lh : h.length = m := nn1 z0.1
  have zr := fun x (hx : x < m) => s.row (x + 1) (nn3 hx)
  refine ⟨z0.2 0 (nn5 r m), lr, lh, fun x hx => by rw [lh]; exact nn2 (zr x hx).1, fun x hx => ?_, fun x y hx hy => ?_, fun y hy => ?_⟩
  · have z := (zr x hx).2 0 (nn5 r m)
    rw [nn4 r x] at z
    exact z
  · have z := (zr x hx).2 (y + 1) (nn3 hy)
    rw [nn4 r x, nn4 r y] at z
    rw [tail_at]
    exact z
  · have z := z0.2 (y + 1) (nn3 hy)
    rw [nn4 r y] at z
    exact z
theorem Cells.cell {top : Int} {h : List Int} {rows : List (List Int)} {r m : Nat} {T : Nat → Nat → Int} (c : Cells top h rows r m T) {x y : Nat} (hx : x < m) (hy : y < m) : (rows.getD x []).tail.getD y 0 * top - (rows.getD x []).getD 0 0 * h.getD y 0 = T (r + 1 + x) (r + 1 + y) * T r r - T (r + 1 + x) r * T r (r + 1 + y) := by
  rw [c.ct x y hx hy, c.c0 x hx, c.hd y hy, ← c.top]
theorem Cells.mem {top : Int} {h : List Int} {rows : List (List Int)} {r m : Nat} {T : Nat → Nat → Int} (c : Cells top h rows r m T) : ∀ row ∈ rows, row.length = h.length + 1 := fun row hr => by
  obtain ⟨x, hx, rfl⟩ := List.getElem_of_mem hr
  have := c.ll x (by rw [← c.lr]; exact hx)
  rw [List.getD_eq_getElem?_getD, List.getElem?_eq_getElem hx] at this
  exact this
theorem Cells.tl {top : Int} {h : List Int} {rows : List (List Int)} {r m : Nat} {T : Nat → Nat → Int} (c : Cells top h rows r m T) {x : Nat} (hx : x < m) : h.length = (rows.getD x []).tail.length := by
  rw [List.length_tail, c.ll x hx, Nat.add_sub_cancel]
theorem Cells.ok {top la : Int} {h : List Int} {rows : List (List Int)} {r m : Nat} {T : Nat → Nat → Int} (c : Cells top h rows r m T) (o : rowsOk top la h rows = true) {x y : Nat} (hx : x < m) (hy : y < m) : (T (r + 1 + x) (r + 1 + y) * T r r - T (r + 1 + x) r * T r (r + 1 + y)).fmod la = 0 ∧ -(2 ^ 20) ≤ (T (r + 1 + x) (r + 1 + y) * T r r - T (r + 1 + x) r * T r (r + 1 + y)).fdiv la ∧ (T (r + 1 + x) (r + 1 + y) * T r r - T (r + 1 + x) r * T r (r + 1 + y)).fdiv la ≤ 2 ^ 20 := by
  have z := rowOk_at top la _ h _ y (rowsOk_at top la h rows o c.mem x (by rw [c.lr]; exact hx)) (c.tl hx) (by rw [c.lh]; exact hy)
  rwa [c.cell hx hy] at z
theorem Cells.next {top la : Int} {h : List Int} {rows : List (List Int)} {r m : Nat} {T : Nat → Nat → Int} (c : Cells top h rows r m T) (h0 : r = 0 → la = 1) : Sub (rowsNew top la h rows) (r + 1) (r + 1 + m) (newT T r la) := by
  have hn := rowsNew_at top la h rows c.mem
  refine ⟨by rw [hn.1, c.lr, Nat.add_comm], fun x hx => ?_⟩
  have hx' := nn6 hx
  rw [hn.2 x (by rw [c.lr]; exact hx'), rowNew_len top la _ h _ (c.tl hx')]
  refine ⟨by rw [c.lh, Nat.add_comm], fun y hy => ?_⟩
  have hy' := nn6 hy
  rw [rowNew_at top la _ h _ y (c.tl hx') (by rw [c.lh]; exact hy'), c.cell hx' hy', newT_in h0]
theorem eqz {a b : Int} (h : Int.sub a b = 0) : a = b := by
  have h' : a - b = 0 := h
  omega
theorem runM_all {n : Nat} {ls : List Int} {T0 : Nat → Nat → Int} : ∀ k r M, k + r = n → runM ls k r (stT T0 r).2 M = true → Sub M r n (stT T0 r).1 → (∀ x y, x < n → y < n → -(2 ^ 20) ≤ (stT T0 r).1 x y ∧ (stT T0 r).1 x y ≤ 2 ^ 20) → ∀ q, r ≤ q → q < n → StepOk n q (stT T0 q).2 ls (stT T0 q).1
  | 0, r, M, hk, _, _, _, q, h1, h2 => by omega
  | k + 1, r, [], hk, h, s, _, q, h1, h2 => by cases h
  | k + 1, r, [] :: rows, hk, h, s, _, q, h1, h2 => by cases h
  | k + 1, r, (top :: h) :: rows, hk, ho, s, bd, q, h1, h2 => by
    obtain rfl : n = r + 1 + k := by rw [← hk, Nat.add_right_comm, Nat.add_comm, Nat.add_comm k r, ← Nat.add_assoc, Nat.add_comm 1 r]
    clear hk
    rw [runM, Bool.and_eq_true, Bool.and_eq_true, Bool.and_eq_true, Bool.or_eq_true, Bool.or_eq_true, fcT_eq] at ho
    obtain ⟨⟨⟨o1, o2⟩, o3⟩, o4⟩ := ho
    have e1 : (stT T0 (r + 1)).1 = newT (stT T0 r).1 r (stT T0 r).2 := rfl
    have e2 : (stT T0 (r + 1)).2 = (stT T0 r).1 r r := rfl
    have h0 : r = 0 → (stT T0 r).2 = 1 := fun e => by rw [e]; rfl
    have c := s.cells
    clear s
    rcases Nat.eq_or_lt_of_le h1 with hq | hq
    · subst hq
      generalize (stT T0 r).1 = T at *
      generalize (stT T0 r).2 = la at *
      refine ⟨fun h2r => ?_, fun hnz => ?_, bd, fun hpos x y hx hxn hy hyn => ?_⟩
      · rcases o1 with e | e
        · exact absurd (Nat.blt_eq.mp e) (Nat.not_lt.mpr h2r)
        · rw [← c.top]
          exact eqz (beq0 e)
      · rcases o2 with e | e
        · have hm := c.lr
          rw [List.isEmpty_iff.mp e] at hm
          rw [← hm] at hnz
          exact absurd hnz (Nat.lt_irrefl _)
        · intro z
          rw [c.top, z] at e
          exact absurd e (by decide)
      · obtain ⟨x', rfl, hx'⟩ := nn7 hx hxn
        obtain ⟨y', rfl, hy'⟩ := nn7 hy hyn
        exact (c.ok o3 hx' hy').1
    · have ct := c.top
      refine runM_all k (r + 1) _ (Nat.add_comm _ _) (by rw [e2, ← ct]; exact o4) (by rw [e1]; exact c.next h0) (fun x y hx hy => ?_) q hq h2
      rw [e1]
      by_cases hc : r < x ∧ r < y
      · obtain ⟨x', rfl, hx'⟩ := nn7 hc.1 hx
        obtain ⟨y', rfl, hy'⟩ := nn7 hc.2 hy
        rw [newT_in h0]
        exact (c.ok o3 hx' hy').2
      · rw [newT_low (by rcases Nat.lt_or_ge r x with g | g; exact .inr (Nat.not_lt.mp fun g2 => hc ⟨g, g2⟩); exact .inl g)]
        exact bd x y hx hy
theorem tabL_sub {n : Nat} {f : Nat → Nat → Int} : Sub (tabL n f) 0 n f := by
  refine ⟨by simp [tabL], fun x hx => ?_⟩
  have hx' : x < n := hx
  have e : (tabL n f).getD x [] = (List.range n).map fun y => f x y := by
    unfold tabL
    simp [List.getD_eq_getElem?_getD, hx']
  rw [e]
  refine ⟨by simp, fun y hy => ?_⟩
  have hy' : y < n := hy
  rw [Nat.zero_add, Nat.zero_add]
  simp [List.getD_eq_getElem?_getD, hy']
theorem treeOk_all {tr : List (Int × Int)} (h : treeOk tr = true) (q : Nat) (hq : q < tr.length + 1) : StepOk (tr.length + 1) q (stT (swpT (dueT tr)) q).2 (tr.map (·.2)) (stT (swpT (dueT tr)) q).1 := by
  unfold treeOk at h
  rw [fcT_eq, Bool.and_eq_true] at h
  refine runM_all (T0 := swpT (dueT tr)) (tr.length + 1) 0 _ rfl h.2 tabL_sub (fun x y hx hy => ?_) q (Nat.zero_le _) hq
  have s := (tabL_sub (n := tr.length + 1) (f := swpT (dueT tr))).row x hx
  have z := s.2 y hy
  rw [Nat.zero_add, Nat.zero_add] at z
  show -(2 ^ 20) ≤ swpT (dueT tr) x y ∧ swpT (dueT tr) x y ≤ 2 ^ 20
  rw [← z]
  have hl := (tabL_sub (n := tr.length + 1) (f := swpT (dueT tr))).len
  have h1 := s.1
  refine sml_bd (List.all_eq_true.mp (List.all_eq_true.mp h.1 _ (List.getElem_mem (show x < (tabL (tr.length + 1) (swpT (dueT tr))).length by omega))) _ ?_)
  rw [List.getD_eq_getElem?_getD, List.getD_eq_getElem?_getD, List.getElem?_eq_getElem (show x < (tabL (tr.length + 1) (swpT (dueT tr))).length by omega)] at *
  rw [Option.getD_some, List.getElem?_eq_getElem (by rw [Option.getD_some] at h1; omega), Option.getD_some]
  exact List.getElem_mem _
theorem last_ok {n : Nat} {ls : List Int} {T0 : Nat → Nat → Int} (h : ∀ q, q < n → StepOk n q (stT T0 q).2 ls (stT T0 q).1) : ∀ r, r < n → (stT T0 r).2 ≠ 0 ∧ -(2 ^ 20) ≤ (stT T0 r).2 ∧ (stT T0 r).2 ≤ 2 ^ 20
  | 0, _ => ⟨(by decide : (1 : Int) ≠ 0), by show -(2 ^ 20) ≤ (1 : Int); decide, by show (1 : Int) ≤ 2 ^ 20; decide⟩
  | r + 1, hr => by
    have h1 := h r (by omega)
    exact ⟨h1.nz hr, (h1.bd r r (by omega) (by omega)).1, (h1.bd r r (by omega) (by omega)).2⟩
theorem pick_upto {vs : List Value} {y : Int} (h : 0 ≤ y) : slicePick vs.toArray none (some y) none = (vs.take y.toNat).toArray := by
  have e : sliceBounds none (some y) none vs.toArray.size = (((0 : Nat) : Int), ((min y.toNat vs.toArray.size : Nat) : Int), 1) := by
    simp only [sliceBounds, Option.getD_none, show (1 : Int) > 0 by decide, if_true, if_neg (show ¬ (y < 0) by omega)]
    congr 1
    congr 1
    omega
  rw [kmk_pick_nat _ e]
  show ((vs.drop 0).take (min y.toNat vs.toArray.size - 0)).toArray = _
  rw [List.drop_zero, Nat.sub_zero, List.size_toArray, kmk_take_min]
theorem ints_snoc {us : List Value} {ns : List Int} {n : Int} {t : Tok} (h : IntsAre us ns) : IntsAre (us ++ [.int n t]) (ns ++ [n]) := by
  induction h with
  | nil => exact .cons _ _ .nil
  | cons n' t' _ ih => exact .cons _ _ ih
theorem take_snoc {tr : List (Int × Int)} {i : Nat} (h : i < tr.length) : (tr.map (·.2)).take (i + 1) = (tr.map (·.2)).take i ++ [(tr.getD i (0, 0)).2] := by
  rw [List.take_add_one, List.getElem?_map, List.getElem?_eq_getElem h, List.getD_eq_getElem?_getD, List.getElem?_eq_getElem h]
  rfl
theorem mem12 {l : Int} (h0 : 1 ≤ l) (h1 : l ≤ 2) : l ∈ [(1 : Int), 2] := by
  have : l = 1 ∨ l = 2 := by omega
  rcases this with rfl | rfl
  · exact .head _
  · exact .tail _ (.head _)
theorem mem0k {a : Int} (k : Nat) (h0 : 0 ≤ a) (h1 : a ≤ k) : a ∈ (List.range (k + 1)).map fun j : Nat => (j : Int) := List.mem_map.mpr ⟨a.toNat, List.mem_range.mpr (by omega), by omega⟩
theorem good_mem {tr : List (Int × Int)} (hg : GoodTree tr) (hl : tr.length = 3 ∨ tr.length = 4) : treeOk tr = true := by
  have m3 : ∀ a b c : Int × Int, GoodTree [a, b, c] → [a, b, c] ∈ trees3 := fun a b c h => by
    have h0 := h 0 (show 0 < 3 by decide)
    have h1 := h 1 (show 1 < 3 by decide)
    have h2 := h 2 (show 2 < 3 by decide)
    obtain ⟨a1, a2⟩ := a
    obtain ⟨b1, b2⟩ := b
    obtain ⟨c1, c2⟩ := c
    simp only [List.getD_cons_zero, List.getD_cons_succ] at h0 h1 h2
    have e : a1 = 0 := by omega
    subst e
    exact List.mem_flatMap.mpr ⟨a2, mem12 h0.2.2.1 h0.2.2.2, List.mem_flatMap.mpr ⟨b1, mem0k 1 h1.1 h1.2.1, List.mem_flatMap.mpr ⟨b2, mem12 h1.2.2.1 h1.2.2.2, List.mem_flatMap.mpr ⟨c1, mem0k 2 h2.1 h2.2.1, List.mem_map.mpr ⟨c2, mem12 h2.2.2.1 h2.2.2.2, rfl⟩⟩⟩⟩⟩
  match tr, hl with
  | [], h => simp at h
  | [_], h => simp at h
  | [_, _], h => simp at h
  | [a, b, c], _ => exact List.all_eq_true.mp trees3_ok _ (m3 a b c hg)
  | [a, b, c, (d1, d2)], _ =>
    have h3 := hg 3 (show 3 < 4 by decide)
    simp only [List.getD_cons_zero, List.getD_cons_succ] at h3
    refine List.all_eq_true.mp (ext_ok h3.1 h3.2.1 h3.2.2.1 h3.2.2.2) _ (List.mem_map.mpr ⟨[a, b, c], m3 a b c fun j hj => ?_, rfl⟩)
    have h4 := hg j (Nat.lt_succ_of_lt hj)
    have hj' : j < 3 := hj
    have : j = 0 ∨ j = 1 ∨ j = 2 := by omega
    rcases this with rfl | rfl | rfl <;> exact h4
  | _ :: _ :: _ :: _ :: _ :: _, h => simp at h
end Mine

-- P26
open PySem PySem.W PyProof.Rows PyProof
set_option Elab.async false
set_option maxRecDepth 100000
set_option linter.unusedVariables false
namespace Mine
/-- the place that a sign stands for -/
noncomputable def cls (c : Nat) : Nat := if c = 34 then 0 else if 97 ≤ c then c - 96 else if 65 ≤ c then c - 64 else c - 48
noncomputable def codesS : List Nat := [34, 97, 98, 99, 100, 65, 66, 67, 68, 49, 50, 51, 52]
noncomputable def kc (c d : Nat) : Int := if c = d then 0 else if cls c = cls d ∧ 65 ≤ c ∧ 65 ≤ d then 1 else 2
theorem cost_kc : ∀ c ∈ codesS, ∀ d ∈ codesS, costN c d = kc c d := by decide +kernel
theorem cls_zero : ∀ c ∈ codesS, cls c = 0 → c = 34 := by decide
theorem kc_bd (c d : Nat) : 0 ≤ kc c d ∧ kc c d ≤ 2 := by
  unfold kc
  split
  · exact ⟨by decide, by decide⟩
  · split <;> exact ⟨by decide, by decide⟩
theorem kc_two {c d : Nat} (h : cls c ≠ cls d) : kc c d = 2 := by
  unfold kc
  rw [if_neg (fun e => h (congrArg cls e)), if_neg (fun e => h e.1)]
/-- a row of signs: each place has one of its three -/
noncomputable def RowOk (r : List Nat) (n : Nat) : Prop := r.length = n ∧ ∀ k, k < n → r.getD k 0 = 97 + k ∨ r.getD k 0 = 65 + k ∨ r.getD k 0 = 49 + k
theorem RowOk.at {r : List Nat} {n k : Nat} (h : RowOk r n) (hn : n ≤ 4) (hk : k < n) : r.getD k 0 ∈ codesS ∧ cls (r.getD k 0) = k + 1 := by
  have h4 : k = 0 ∨ k = 1 ∨ k = 2 ∨ k = 3 := by omega
  rcases h.2 k hk with e | e | e <;> rw [e] <;> rcases h4 with rfl | rfl | rfl | rfl <;> decide
/-- the places along a word -/
noncomputable def patt (ws : List (Int × Int × Int)) : Nat → List Nat
  | 0 => [1, 0]
  | k + 1 => patt ws k ++ (if k = 0 then [] else [k + 1]) ++ List.replicate (ws.getD k (0, 0, 0)).2.2.toNat 0
theorem word_cls {ws : List (Int × Int × Int)} {r : List Nat} {n : Nat} (h : RowOk r n) (h0 : 0 < n) (hn : n ≤ 4) : ∀ m, m ≤ n → (wordP ws r m).map cls = patt ws m ∧ ∀ c ∈ wordP ws r m, c ∈ codesS
  | 0, _ => by
    have h1 := h.at hn h0
    constructor
    · show [cls (r.getD 0 0), 0] = [1, 0]
      rw [h1.2]
    · exact List.forall_mem_cons.mpr ⟨h1.1, List.forall_mem_cons.mpr ⟨by decide, List.forall_mem_nil _⟩⟩
  | m + 1, hm => by
    obtain ⟨i1, i2⟩ := word_cls (ws := ws) h h0 hn m (by omega)
    have h1 := h.at hn (show m < n by omega)
    constructor
    · rw [wordP, patt, List.map_append, List.map_append, i1, List.map_replicate]
      congr 1
      congr 1
      split
      · rfl
      · rw [List.map_cons, h1.2]; rfl
    · intro c hc
      rw [wordP, List.mem_append, List.mem_append] at hc
      rcases hc with (hc | hc) | hc
      · exact i2 c hc
      · split at hc
        · cases hc
        · rw [List.mem_singleton.mp hc]; exact h1.1
      · rw [(List.mem_replicate.mp hc).2]; decide
theorem patt_uniq (ws : List (Int × Int × Int)) : ∀ m, (∀ c ∈ patt ws m, c ≤ m ∨ c ≤ 1) ∧ (patt ws m).Pairwise fun a b => a = b → a = 0
  | 0 => ⟨show ∀ c ∈ [1, 0], c ≤ 0 ∨ c ≤ 1 by decide, show List.Pairwise (fun a b => a = b → a = 0) [1, 0] by decide⟩
  | m + 1 => by
    obtain ⟨h1, h2⟩ := patt_uniq ws m
    have hx : ∀ c ∈ (if m = 0 then [] else [m + 1]), c = m + 1 ∧ m ≠ 0 := by
      intro c hc
      split at hc
      · cases hc
      · exact ⟨List.mem_singleton.mp hc, by assumption⟩
    have hy : ∀ c ∈ List.replicate (ws.getD m (0, 0, 0)).2.2.toNat 0, c = 0 := fun c hc => (List.mem_replicate.mp hc).2
    constructor
    · intro c hc
      rw [patt, List.mem_append, List.mem_append] at hc
      rcases hc with (hc | hc) | hc
      · have := h1 c hc; omega
      · have := hx c hc; omega
      · have := hy c hc; omega
    · rw [patt, List.pairwise_append, List.pairwise_append]
      refine ⟨⟨h2, ?_, fun a ha b hb e => ?_⟩, List.pairwise_replicate.mpr (.inr fun _ => rfl), fun a ha b hb e => e.trans (hy b hb)⟩
      · split
        · exact List.Pairwise.nil
        · exact List.pairwise_singleton _ _
      · have := hx b hb
        have := h1 a ha
        omega
theorem word_price {ws : List (Int × Int × Int)} {r r' : List Nat} {n : Nat} (h : RowOk r n) (h' : RowOk r' n) (h0 : 0 < n) (hn : n ≤ 4) : Price (wordP ws r n) (wordP ws r' n) := by
  obtain ⟨a1, a2⟩ := word_cls (ws := ws) h h0 hn n (Nat.le_refl _)
  obtain ⟨b1, b2⟩ := word_cls (ws := ws) h' h0 hn n (Nat.le_refl _)
  have hu := (patt_uniq ws n).2
  generalize wordP ws r n = A at *
  generalize wordP ws r' n = B at *
  have hl : A.length = B.length := by rw [← List.length_map (f := cls), a1, ← b1, List.length_map]
  have ha : ∀ k, k < A.length → A.getD k 0 ∈ codesS := fun k hk => by
    rw [List.getD_eq_getElem?_getD, List.getElem?_eq_getElem hk]; exact a2 _ (List.getElem_mem _)
  have hb : ∀ k, k < A.length → B.getD k 0 ∈ codesS := fun k hk => by
    rw [List.getD_eq_getElem?_getD, List.getElem?_eq_getElem (hl ▸ hk)]; exact b2 _ (List.getElem_mem _)
  have ca : ∀ k, k < A.length → cls (A.getD k 0) = (patt ws n).getD k 0 := fun k hk => by
    rw [← a1, List.getD_eq_getElem?_getD, List.getD_eq_getElem?_getD, List.getElem?_map, List.getElem?_eq_getElem hk]; rfl
  have cb : ∀ k, k < A.length → cls (B.getD k 0) = (patt ws n).getD k 0 := fun k hk => by
    rw [← b1, List.getD_eq_getElem?_getD, List.getD_eq_getElem?_getD, List.getElem?_map, List.getElem?_eq_getElem (hl ▸ hk)]; rfl
  have hpl : (patt ws n).length = A.length := by rw [← a1, List.length_map]
  have up : ∀ k t, k < A.length → t < A.length → k ≠ t → (patt ws n).getD k 0 = (patt ws n).getD t 0 → (patt ws n).getD k 0 = 0 := fun k t hk ht hne e => by
    rw [List.pairwise_iff_getElem] at hu
    rw [List.getD_eq_getElem?_getD, List.getElem?_eq_getElem (hpl ▸ hk), List.getD_eq_getElem?_getD, List.getElem?_eq_getElem (hpl ▸ ht)] at e
    rw [List.getD_eq_getElem?_getD, List.getElem?_eq_getElem (hpl ▸ hk)]
    rcases Nat.lt_or_gt_of_ne hne with hlt | hlt
    · exact hu k t (hpl ▸ hk) (hpl ▸ ht) hlt e
    · exact e.trans (hu t k (hpl ▸ ht) (hpl ▸ hk) hlt e.symm)
  refine ⟨hl, fun k t hk ht => ?_, fun k hk => ?_⟩
  · rw [cost_kc _ (hb k hk) _ (ha k hk), cost_kc _ (hb t ht) _ (ha k hk)]
    by_cases e : k = t
    · rw [e]; exact Int.le_refl _
    · by_cases z : (patt ws n).getD k 0 = 0
      · rw [cls_zero _ (ha k hk) ((ca k hk).trans z), cls_zero _ (hb k hk) ((cb k hk).trans z)]
        exact (kc_bd _ _).1
      · rw [kc_two (c := B.getD t 0) (d := A.getD k 0) (by rw [cb t ht, ca k hk]; exact fun q => z (up k t hk ht e q.symm))]
        exact (kc_bd _ _).2
  · rw [cost_kc _ (hb k hk) _ (ha k hk)]
    exact kc_bd _ _
theorem pa_congr {X Y A B : List Nat} : ∀ k, (∀ j, j < k → X.getD j 0 = A.getD j 0 ∧ Y.getD j 0 = B.getD j 0) → pa X Y k = pa A B k
  | 0, _ => rfl
  | k + 1, h => by
    rw [pa, pa, pa_congr k fun j hj => h j (by omega), (h k (by omega)).1, (h k (by omega)).2]
theorem getD_app_left {A X : List Nat} {j : Nat} (h : j < A.length) : (A ++ X).getD j 0 = A.getD j 0 := by
  rw [List.getD_eq_getElem?_getD, List.getElem?_append_left h, List.getD_eq_getElem?_getD]
theorem getD_app_right (A X : List Nat) (j : Nat) : (A ++ X).getD (A.length + j) 0 = X.getD j 0 := by
  rw [List.getD_eq_getElem?_getD, List.getElem?_append_right (by omega), List.getD_eq_getElem?_getD, Nat.add_sub_cancel_left]
theorem pa_app {A B X Y : List Nat} (h : A.length = B.length) (k : Nat) : pa (A ++ X) (B ++ Y) (A.length + k) = pa A B A.length + pa X Y k := by
  rw [pa_shift (A := X) (B := Y) k fun j _ => ⟨(getD_app_right A X j).symm, by rw [h]; exact (getD_app_right B Y j).symm⟩]
  congr 1
  exact pa_congr _ fun j hj => ⟨getD_app_left hj, getD_app_left (h ▸ hj)⟩
theorem pa_self (X : List Nat) (k : Nat) : pa X X k = 0 := by
  have := pa_zero (X := X) (Y := X) (i := 0) k fun _ _ _ => rfl
  rwa [Nat.zero_add] at this
theorem word_len2 (ws : List (Int × Int × Int)) (r r' : List Nat) : ∀ m, (wordP ws r m).length = (wordP ws r' m).length
  | 0 => rfl
  | m + 1 => by
    rw [wordP, wordP, List.length_append, List.length_append, List.length_append, List.length_append, word_len2 ws r r' m]
    congr 2
    split <;> rfl
theorem wordP_one (ws : List (Int × Int × Int)) (r : List Nat) : wordP ws r 1 = [r.getD 0 0, 34] ++ List.replicate (ws.getD 0 (0, 0, 0)).2.2.toNat 34 := rfl
theorem wordP_two (ws : List (Int × Int × Int)) (r : List Nat) (m : Nat) : wordP ws r (m + 2) = wordP ws r (m + 1) ++ [r.getD (m + 1) 0] ++ List.replicate (ws.getD (m + 1) (0, 0, 0)).2.2.toNat 34 := rfl
/-- the words are as far apart as the rows -/
theorem word_pa (ws : List (Int × Int × Int)) (r r' : List Nat) : ∀ m, pa (wordP ws r (m + 1)) (wordP ws r' (m + 1)) (wordP ws r (m + 1)).length = pa r r' (m + 1)
  | 0 => by
    rw [wordP_one, wordP_one, List.length_append, pa_app (A := [r.getD 0 0, 34]) (B := [r'.getD 0 0, 34]) rfl, pa_self]
    show 0 + costN (r'.getD 0 0) (r.getD 0 0) + costN 34 34 + 0 = 0 + costN (r'.getD 0 0) (r.getD 0 0)
    rw [costN_self]; omega
  | m + 1 => by
    rw [wordP_two, wordP_two, List.length_append, pa_app (by rw [List.length_append, List.length_append, word_len2 ws r r' (m + 1)]; rfl), pa_self, List.length_append, pa_app (word_len2 ws r r' (m + 1)), word_pa ws r r' m]
    show pa r r' (m + 1) + (0 + costN (r'.getD (m + 1) 0) (r.getD (m + 1) 0)) + 0 = pa r r' (m + 1) + costN (r'.getD (m + 1) 0) (r.getD (m + 1) 0)
    omega
end Mine

-- P27
open PySem PySem.W PyProof.Rows PyProof
set_option Elab.async false
set_option maxRecDepth 100000
set_option linter.unusedVariables false
namespace Mine
/-- the tree that the ways tell -/
noncomputable def treeW (ws : List (Int × Int × Int)) : List (Int × Int) := ws.map fun x => (x.1, x.2.1)
theorem treeW_len (ws : List (Int × Int × Int)) : (treeW ws).length = ws.length := List.length_map _
theorem treeW_at (ws : List (Int × Int × Int)) (j : Nat) : (treeW ws).getD j (0, 0) = ((ws.getD j (0, 0, 0)).1, (ws.getD j (0, 0, 0)).2.1) := by
  unfold treeW
  rw [List.getD_eq_getElem?_getD, List.getD_eq_getElem?_getD, List.getElem?_map]
  cases ws[j]? <;> rfl
theorem treeW_good {ws : List (Int × Int × Int)} (hg : GoodWays ws) : GoodTree (treeW ws) := fun j hj => by
  rw [treeW_len] at hj
  rw [treeW_at]
  have h := hg.at' j hj
  exact ⟨h.1, h.2.1, h.2.2.1, h.2.2.2.1⟩
noncomputable def rowW (ws : List (Int × Int × Int)) (i : Nat) : List Nat := (rowsN ws ws.length).getD i []
theorem rowsN_pre {ws : List (Int × Int × Int)} {i k : Nat} (hi : i ≤ k) : ∀ m, (rowsN ws (k + m)).getD i [] = (rowsN ws k).getD i []
  | 0 => rfl
  | m + 1 => by
    rw [← rowsN_pre hi m, ← Nat.add_assoc, rowsN, List.getD_eq_getElem?_getD, List.getElem?_append_left (by rw [rowsN_len]; omega), List.getD_eq_getElem?_getD]
theorem rowW_pre {ws : List (Int × Int × Int)} {i k : Nat} (hi : i ≤ k) (hk : k ≤ ws.length) : rowW ws i = (rowsN ws k).getD i [] := by
  have h := rowsN_pre (ws := ws) hi (ws.length - k)
  rwa [show k + (ws.length - k) = ws.length by omega] at h
theorem rowW_zero (ws : List (Int × Int × Int)) : rowW ws 0 = (List.range ws.length).map (97 + ·) := by
  rw [rowW_pre (Nat.le_refl 0) (Nat.zero_le _)]; rfl
theorem rowW_succ {ws : List (Int × Int × Int)} (hg : GoodWays ws) {k : Nat} (hk : k < ws.length) : rowW ws (k + 1) = (rowW ws (ws.getD k (0, 0, 0)).1.toNat).set k (letC k (ws.getD k (0, 0, 0)).2.1) := by
  have ha := hg.at' k hk
  rw [rowW_pre (Nat.le_refl (k + 1)) hk, rowsN, List.getD_eq_getElem?_getD, List.getElem?_append_right (by rw [rowsN_len]; omega), rowsN_len, Nat.sub_self, rowW_pre (k := k) (by omega) (by omega)]
  rfl
theorem getD_setN {A : List Nat} {k j v : Nat} (hk : k < A.length) : (A.set k v).getD j 0 = if j = k then v else A.getD j 0 := by
  simp only [List.getD_eq_getElem?_getD, List.getElem?_set]
  by_cases h : k = j
  · subst h; simp [hk]
  · rw [if_neg h, if_neg (Ne.symm h)]
/-- what the rows are -/
theorem rowW_all {ws : List (Int × Int × Int)} (hg : GoodWays ws) : ∀ m i, i ≤ m → i ≤ ws.length → RowOk (rowW ws i) ws.length ∧ ∀ k, i ≤ k → k < ws.length → (rowW ws i).getD k 0 = 97 + k := by
  have h0 : RowOk (rowW ws 0) ws.length ∧ ∀ k, 0 ≤ k → k < ws.length → (rowW ws 0).getD k 0 = 97 + k := by
    have e : ∀ k, k < ws.length → (rowW ws 0).getD k 0 = 97 + k := fun k hk => by
      rw [rowW_zero]; simp [List.getD_eq_getElem?_getD, hk]
    exact ⟨⟨by rw [rowW_zero, List.length_map, List.length_range], fun k hk => .inl (e k hk)⟩, fun k _ hk => e k hk⟩
  intro m
  induction m with
  | zero => intro i h _; obtain rfl : i = 0 := by omega
            exact h0
  | succ m ih =>
    intro i h hn
    cases i with
    | zero => exact h0
    | succ i =>
      have ha := hg.at' i (by omega)
      obtain ⟨r1, r2⟩ := ih (ws.getD i (0, 0, 0)).1.toNat (by omega) (by omega)
      rw [rowW_succ hg (by omega)]
      have hl := r1.1
      refine ⟨⟨by rw [List.length_set]; exact hl, fun k hk => ?_⟩, fun k h1 hk => ?_⟩
      · rw [getD_setN (by omega)]
        split
        · rename k = i => e
          subst e
          unfold letC
          split
          · exact .inr (.inl rfl)
          · exact .inr (.inr rfl)
        · exact r1.2 k hk
      · rw [getD_setN (by omega), if_neg (by omega)]
        exact r2 k (by omega) hk
theorem costN_symm (c d : Nat) : costN c d = costN d c := by
  unfold costN substF
  by_cases h : (⟨#[c]⟩ : Str) = ⟨#[d]⟩
  · rw [if_pos h, if_pos h.symm]
  · rw [if_neg h, if_neg (Ne.symm h)]
    by_cases h2 : Txt.lower ⟨#[c]⟩ = Txt.lower ⟨#[d]⟩
    · rw [if_pos h2, if_pos h2.symm]
    · rw [if_neg h2, if_neg (Ne.symm h2)]
theorem pa_symm (A B : List Nat) : ∀ k, pa A B k = pa B A k
  | 0 => rfl
  | k + 1 => by rw [pa, pa, pa_symm A B k, costN_symm]
theorem pa_set {A B : List Nat} {k v : Nat} (hk : k < A.length) : ∀ n, pa (A.set k v) B n = pa A B n + if k < n then costN (B.getD k 0) v - costN (B.getD k 0) (A.getD k 0) else 0
  | 0 => rfl
  | n + 1 => by
    rw [pa, pa, pa_set hk n, getD_setN hk]
    by_cases h : k < n
    · rw [if_pos h, if_pos (show k < n + 1 by omega), if_neg (show ¬ n = k by omega)]; omega
    · rw [if_neg h]
      by_cases h2 : n = k
      · subst h2; rw [if_pos rfl, if_pos (Nat.lt_succ_self n)]; omega
      · rw [if_neg h2, if_neg (show ¬ k < n + 1 by omega)]; omega
theorem cost_let {k : Nat} {l : Int} (hk : k < 4) (h1 : 1 ≤ l) (h2 : l ≤ 2) : costN (97 + k) (letC k l) = l := by
  have h4 : k = 0 ∨ k = 1 ∨ k = 2 ∨ k = 3 := by omega
  have hl : l = 1 ∨ l = 2 := by omega
  rw [cost_kc (97 + k) (by rcases h4 with rfl | rfl | rfl | rfl <;> decide) (letC k l) (by rcases h4 with rfl | rfl | rfl | rfl <;> rcases hl with rfl | rfl <;> decide)]
  rcases h4 with rfl | rfl | rfl | rfl <;> rcases hl with rfl | rfl <;> decide
theorem row_step {ws : List (Int × Int × Int)} (hg : GoodWays ws) {k j : Nat} (hj : j ≤ k) (hk : k < ws.length) : pa (rowW ws (k + 1)) (rowW ws j) ws.length = (ws.getD k (0, 0, 0)).2.1 + pa (rowW ws (ws.getD k (0, 0, 0)).1.toNat) (rowW ws j) ws.length := by
  have ha := hg.at' k hk
  have hl := hg.len
  have h1 := rowW_all hg ws.length (ws.getD k (0, 0, 0)).1.toNat (by omega) (by omega)
  have h2 := rowW_all hg ws.length j (by omega) (by omega)
  rw [rowW_succ hg hk, pa_set (by rw [h1.1.1]; exact hk), if_pos hk, h2.2 k hj hk, h1.2 k (by omega) hk, costN_self, cost_let (by omega) ha.2.2.1 ha.2.2.2.1]
  omega
theorem bet_pa {ws : List (Int × Int × Int)} (hg : GoodWays ws) : ∀ f a b : Nat, ∀ acc : Int, a + b ≤ f → a ≤ ws.length → b ≤ ws.length → betF (treeW ws) f (a : Int) (b : Int) acc = acc + pa (rowW ws a) (rowW ws b) ws.length
  | 0, a, b, acc, h, _, _ => by
    obtain rfl : a = 0 := by omega
    obtain rfl : b = 0 := by omega
    rw [pa_self]
    show acc = acc + 0
    omega
  | f + 1, a, b, acc, h, ha, hb => by
    rw [betF]
    by_cases e : (a : Int) = (b : Int)
    · rw [if_pos e]
      obtain rfl : a = b := by omega
      rw [pa_self]; omega
    · rw [if_neg e]
      by_cases e2 : (a : Int) < (b : Int)
      · rw [if_pos e2]
        obtain ⟨k, rfl⟩ : ∃ k, b = k + 1 := ⟨b - 1, by omega⟩
        have hw := hg.at' k (by omega)
        rw [show (((k + 1 : Nat) : Int) - 1).toNat = k by omega, treeW_at]
        have ih := bet_pa hg f (ws.getD k (0, 0, 0)).1.toNat a (acc + (ws.getD k (0, 0, 0)).2.1) (by omega) (by omega) ha
        rw [show (((ws.getD k (0, 0, 0)).1.toNat : Nat) : Int) = (ws.getD k (0, 0, 0)).1 by omega] at ih
        rw [ih, pa_symm (rowW ws a), row_step hg (by omega) (by omega)]
        omega
      · rw [if_neg e2]
        obtain ⟨k, rfl⟩ : ∃ k, a = k + 1 := ⟨a - 1, by omega⟩
        have hw := hg.at' k (by omega)
        rw [show (((k + 1 : Nat) : Int) - 1).toNat = k by omega, treeW_at]
        have ih := bet_pa hg f (ws.getD k (0, 0, 0)).1.toNat b (acc + (ws.getD k (0, 0, 0)).2.1) (by omega) (by omega) hb
        rw [show (((ws.getD k (0, 0, 0)).1.toNat : Nat) : Int) = (ws.getD k (0, 0, 0)).1 by omega] at ih
        rw [ih, row_step hg (by omega) (by omega)]
        omega
theorem due_pa {ws : List (Int × Int × Int)} (hg : GoodWays ws) {i j : Nat} (hj : j < i) (hi : i ≤ ws.length) : dueT (treeW ws) i j = pa (rowW ws i) (rowW ws j) ws.length := by
  unfold dueT
  rw [if_pos hj, bet_pa hg (i + j) i j 0 (Nat.le_refl _) hi (by omega)]
  omega
theorem tl_word (ws : List (Int × Int × Int)) (i : Nat) : tl (wordS ws i) = wordP ws (rowW ws i) ws.length := rfl
/-- any two words are as far apart as their folders in the tree -/
theorem lev_words {ws : List (Int × Int × Int)} (hg : GoodWays ws) {i j : Nat} (hj : j < i) (hi : i < ws.length + 1) (b : Int) (hb : dueT (treeW ws) i j - 1 ≤ b) : levF (tl (wordS ws i)) (tl (wordS ws j)) b = dueT (treeW ws) i j := by
  have hl := hg.len
  have h1 := rowW_all hg ws.length i (by omega) (by omega)
  have h2 := rowW_all hg ws.length j (by omega) (by omega)
  have hp := word_price (ws := ws) h1.1 h2.1 (by omega) (by omega)
  have he := word_pa ws (rowW ws i) (rowW ws j) (ws.length - 1)
  rw [show ws.length - 1 + 1 = ws.length by omega] at he
  rw [due_pa hg hj (by omega)] at hb ⊢
  rw [tl_word, tl_word, levF_price hp (by rw [he]; exact hb), he]
end Mine

-- P28
open PySem PySem.W PyProof.Rows PyProof
set_option Elab.async false
set_option maxRecDepth 100000
set_option linter.unusedVariables false
namespace Mine
/-- what the table is at least, one word put off by a sign -/
noncomputable def lb (A B : List Nat) : Nat → Nat → Int
  | 0, k => 2 * k
  | t + 1, k => pa A B k + if k ≤ t ∨ (k = t + 1 ∧ 1 ≤ t) then 2 else 0
theorem lb_hi {A B : List Nat} {t k : Nat} (h : k ≤ t ∨ (k = t + 1 ∧ 1 ≤ t)) : lb A B (t + 1) k = pa A B k + 2 := by rw [lb, if_pos h]
theorem lb_lo {A B : List Nat} {t k : Nat} (h : ¬ (k ≤ t ∨ (k = t + 1 ∧ 1 ≤ t))) : lb A B (t + 1) k = pa A B k := by rw [lb, if_neg h, Int.add_zero]
theorem lb_ge (A B : List Nat) (t k : Nat) : pa A B k ≤ lb A B (t + 1) k := by
  rw [lb]
  split
  · exact Int.le_add_of_nonneg_right (by decide)
  · exact Int.le_add_of_nonneg_right (by decide)
theorem le_pmin {x a b : Int} (h1 : x ≤ a) (h2 : x ≤ b) : x ≤ pmin a b := by
  unfold pmin
  split <;> assumption
theorem pmin_le (a b : Int) : pmin a b ≤ b ∧ pmin a b ≤ a := by
  unfold pmin
  split <;> omega
theorem le_pm3 {x r a d : Int} (h1 : x ≤ r + 2) (h2 : x ≤ a + 2) (h3 : x ≤ d) : x ≤ pmin (pmin r a + 2) d := by
  refine le_pmin ?_ h3
  unfold pmin
  split <;> assumption
theorem pm_left {r a d : Int} : pmin (pmin r a + 2) d ≤ r + 2 := Int.le_trans (pmin_le _ _).2 (Int.add_le_add_right (pmin_le _ _).2 2)
theorem pm_right {r d : Int} : pmin r d ≤ d := (pmin_le _ _).1
/-- Y is B with one sign more ahead -/
structure Shift (A B Y : List Nat) : Prop where
  price : Price A B
  two : 2 ≤ A.length
  len : Y.length = A.length
  first : ∀ k, k < A.length → costN (Y.getD 0 0) (A.getD k 0) = 2
  rest : ∀ t, t + 1 < A.length → Y.getD (t + 1) 0 = B.getD t 0
  quote : costN (B.getD 0 0) (A.getD 1 0) = 2
  same : costN (B.getD 1 0) (A.getD 1 0) = 0
  last : costN (B.getD (A.length - 1) 0) (A.getD (A.length - 1) 0) = 2
theorem pa_succ (A B : List Nat) (k : Nat) : pa A B (k + 1) = pa A B k + costN (B.getD k 0) (A.getD k 0) := rfl
theorem ax1 {x p c r : Int} (h : p ≤ r) (hx : x = p + c) (hc : c ≤ 2) : x ≤ r + 2 := by omega
theorem ax2 {x p c c' d : Int} (h : p ≤ d) (hx : x = p + c') (hc : c' ≤ c) : x ≤ d + c := by omega
theorem ax3 {x p c r : Int} {k t : Nat} (h : r = 2 * ((t + 1 : Nat) : Int)) (hx : x = p + c) (hc : c ≤ 2) (hp : p = 0) : x + 2 ≤ r + 2 := by omega
theorem ax4 {x p c c' d : Int} {t : Nat} (h : d = 2 * ((t + 1 : Nat) : Int)) (hx : x = p + c') (hp : p = 0) (hc : c' ≤ c) : x + 2 ≤ d + c := by omega
theorem lb_step {A B Y : List Nat} (h : Shift A B Y) {t k : Nat} (ht : t < A.length) (hk : k < A.length) {d r a : Int} (hd0 : k = 0 → d = 2 * t) (hd1 : 1 ≤ k → lb A B t k ≤ d) (hr0 : k = 0 → r = 2 * t) (hr1 : 1 ≤ k → lb A B (t + 1) k ≤ r) (ha : lb A B t (k + 1) ≤ a) :
    lb A B (t + 1) (k + 1) ≤ pmin (pmin r a + 2) (d + costN (Y.getD t 0) (A.getD k 0)) := by
  have hc2 := (h.price.bd k hk).2
  have hps := pa_succ A B k
  cases t with
  | zero =>
    have h1 := (pa_le h.price (k + 1) hk).2
    have hlo : lb A B (0 + 1) (k + 1) = pa A B (k + 1) := lb_lo fun e => by rcases e with e | e <;> omega
    rw [h.first k hk, hlo]
    refine le_pm3 ?_ (Int.le_trans h1 (Int.le_trans ha (Int.le_add_of_nonneg_right (by decide)))) ?_
    · cases k with
      | zero => rw [hr0 rfl]; exact h1
      | succ k => exact ax1 (Int.le_trans (lb_ge A B 0 _) (hr1 (Nat.succ_pos k))) hps hc2
    · refine Int.le_trans h1 ?_
      cases k with
      | zero => rw [hd0 rfl]; decide
      | succ k =>
        have := hd1 (Nat.succ_pos k)
        show 2 * ((k + 1 + 1 : Nat) : Int) ≤ d + 2
        have this : 2 * ((k + 1 : Nat) : Int) ≤ d := this
        clear hps hc2 h1 hr0 hr1 ha hlo hd0 hd1
        omega
  | succ t =>
    rw [h.rest t ht]
    have hlow := h.price.low k t hk (Nat.lt_of_succ_lt ht)
    have hax := Int.le_trans (lb_ge A B t (k + 1)) ha
    by_cases hkt : k ≤ t + 1
    · rw [lb_hi (t := t + 1) (k := k + 1) (by clear hps hc2 hlow hax ha; omega)]
      refine le_pm3 ?_ (Int.add_le_add_right hax 2) ?_
      · cases k with
        | zero => exact ax3 (k := 0) (hr0 rfl) hps hc2 rfl
        | succ k =>
          have e := hr1 (Nat.succ_pos k)
          rw [lb_hi (.inl hkt)] at e
          exact ax1 e (by rw [hps, Int.add_right_comm]) hc2
      · cases k with
        | zero => exact ax4 (hd0 rfl) hps rfl hlow
        | succ k =>
          have e := hd1 (Nat.succ_pos k)
          by_cases z : k + 1 ≤ t ∨ (k + 1 = t + 1 ∧ 1 ≤ t)
          · rw [lb_hi z] at e
            exact ax2 e (by rw [hps, Int.add_right_comm]) hlow
          · obtain ⟨rfl, rfl⟩ : k = 0 ∧ t = 0 := by clear hps hc2 hlow hax ha e; omega
            rw [h.quote, hps, h.same, Int.add_zero]
            exact Int.add_le_add_right (Int.le_trans (lb_ge A B 0 1) e) 2
    · rw [lb_lo (t := t + 1) (k := k + 1) (by clear hps hc2 hlow hax ha; omega)]
      have hk1 : 1 ≤ k := by clear hps hc2 hlow hax ha; omega
      exact le_pm3 (ax1 (Int.le_trans (lb_ge A B _ _) (hr1 hk1)) hps hc2) (Int.le_trans hax (Int.le_add_of_nonneg_right (by decide))) (ax2 (Int.le_trans (lb_ge A B _ _) (hd1 hk1)) hps hlow)
structure InL (A B : List Nat) (t k : Nat) (st : DSt) : Prop where
  len : st.2.2.2.length = A.length
  dist0 : k = 0 → st.1 = 2 * t
  dist : 1 ≤ k → lb A B t k ≤ st.1
  res0 : k = 0 → st.2.1 = 2 * t
  res : 1 ≤ k → lb A B (t + 1) k ≤ st.2.1
  old : ∀ j, k ≤ j → j < A.length → lb A B t (j + 1) ≤ st.2.2.2.getD j 0
  new : ∀ j, j < k → lb A B (t + 1) (j + 1) ≤ st.2.2.2.getD j 0
  before : k + 1 < t → st.2.2.2.getD (t - 2) 0 ≤ 2 + pa A B (t - 1)
  at' : k + 1 = t → st.1 ≤ 2 + pa A B k
  after : 1 ≤ t → t ≤ k → st.2.2.2.getD (t - 1) 0 ≤ 2 + pa A B t ∧ st.2.2.1 ≤ 2 + pa A B t
  zero : t = 0 → 1 ≤ k → st.2.2.1 ≤ 2
  nxt : 1 ≤ t → k = t + 1 → st.2.1 ≤ 4 + pa A B t
  last : 1 ≤ k → st.2.1 = st.2.2.2.getD (k - 1) 0
theorem mn_le {r m x : Int} (h : m ≤ x ∨ r ≤ x) : (if r < m then r else m) ≤ x := by split <;> omega
theorem getD_set_ne {l : List Int} {k j : Nat} {v : Int} (hk : k < l.length) (h : j ≠ k) : (l.set k v).getD j 0 = l.getD j 0 := by rw [getD_set hk, if_neg h]
theorem getD_set_eq {l : List Int} {k : Nat} {v : Int} (hk : k < l.length) : (l.set k v).getD k 0 = v := by rw [getD_set hk, if_pos rfl]
theorem inStep_eq (c : Nat) (A : List Nat) (d r mn : Int) (row : List Int) (k : Nat) : inStep c A (d, r, mn, row) (k : Int) = (row.getD k 0, pmin (pmin r (row.getD k 0) + 2) (d + costN c (A.getD k 0)), if pmin (pmin r (row.getD k 0) + 2) (d + costN c (A.getD k 0)) < mn then pmin (pmin r (row.getD k 0) + 2) (d + costN c (A.getD k 0)) else mn, row.set k (pmin (pmin r (row.getD k 0) + 2) (d + costN c (A.getD k 0)))) := by
  unfold inStep
  simp only [Int.toNat_natCast]
theorem InL.step {A B Y : List Nat} (h : Shift A B Y) {t k : Nat} (ht : t < A.length) (hk : k < A.length) {st : DSt} (i : InL A B t k st) : InL A B t (k + 1) (inStep (Y.getD t 0) A st (k : Int)) := by
  obtain ⟨d, r, mn, row⟩ := st
  obtain ⟨i1, i2, i3, i4, i5, i6, i7, i8, i9, i10, i11, i12, i13⟩ := i
  have hrow : lb A B t (k + 1) ≤ row.getD k 0 := i6 k (Nat.le_refl _) hk
  have hlb := lb_step h ht hk i2 i3 i4 i5 hrow
  have hkl : k < row.length := Nat.lt_of_lt_of_eq hk i1.symm
  rw [inStep_eq]
  have hr2 : pmin (pmin r (row.getD k 0) + 2) (d + costN (Y.getD t 0) (A.getD k 0)) ≤ d + costN (Y.getD t 0) (A.getD k 0) := pm_right
  have hr3 : pmin (pmin r (row.getD k 0) + 2) (d + costN (Y.getD t 0) (A.getD k 0)) ≤ r + 2 := pm_left
  generalize pmin (pmin r (row.getD k 0) + 2) (d + costN (Y.getD t 0) (A.getD k 0)) = r' at *
  refine ⟨(List.length_set ..).trans i1, fun z => absurd z (Nat.succ_ne_zero k), fun _ => hrow, fun z => absurd z (Nat.succ_ne_zero k), fun _ => hlb, fun j h1 h2 => ?_, fun j h1 => ?_, fun h1 => ?_, fun h1 => ?_, fun h0 h1 => ?_, fun h0 h1 => ?_, fun h0 h1 => ?_, fun _ => (getD_set_eq hkl).symm⟩
  · exact Int.le_trans (i6 j (Nat.le_of_succ_le h1) h2) (Int.le_of_eq (getD_set_ne hkl (Nat.ne_of_gt h1)).symm)
  · rcases Nat.lt_or_eq_of_le (Nat.le_of_lt_succ h1) with e | e
    · exact Int.le_trans (i7 j e) (Int.le_of_eq (getD_set_ne hkl (Nat.ne_of_lt e)).symm)
    · subst e; exact Int.le_trans hlb (Int.le_of_eq (getD_set_eq hkl).symm)
  · have h2 := i8 (Nat.lt_of_succ_lt h1)
    exact Int.le_trans (Int.le_of_eq (getD_set_ne hkl (by clear hrow hlb hr2 hr3 h2; omega))) h2
  · subst h1
    exact i8 (Nat.lt_succ_self _)
  · by_cases e : t = k + 1
    · subst e
      have h6 := i9 rfl
      have h7 : r' ≤ 2 + pa A B (k + 1) := by
        rw [h.rest k ht] at hr2
        rw [pa_succ, ← Int.add_assoc]
        exact Int.le_trans hr2 (Int.add_le_add_right h6 _)
      exact ⟨Int.le_trans (Int.le_of_eq (getD_set_eq hkl)) h7, mn_le (.inr h7)⟩
    · have htk : t ≤ k := Nat.le_of_lt_succ (Nat.lt_of_le_of_ne h1 e)
      have h7 := i10 h0 htk
      exact ⟨Int.le_trans (Int.le_of_eq (getD_set_ne hkl (by clear hrow hlb hr2 hr3 h7; omega))) h7.1, mn_le (.inl h7.2)⟩
  · refine mn_le ?_
    cases k with
    | zero =>
      subst h0
      have hd : d = 2 * ((0 : Nat) : Int) := i2 rfl
      rw [h.first 0 hk, hd] at hr2
      exact .inr hr2
    | succ k => exact .inl (i11 h0 (Nat.succ_pos k))
  · obtain rfl : k = t := Nat.succ.inj h1
    have h7 := (i10 h0 (Nat.le_refl _)).1
    have h8 : r = row.getD (k - 1) 0 := i13 h0
    rw [← h8] at h7
    show r' ≤ 4 + pa A B k
    clear hrow hlb hr2 h8 i1 ht hk hkl h0
    omega
structure OutL (A B : List Nat) (t : Nat) (q : Int × List Int) : Prop where
  len : q.2.length = A.length
  low : ∀ j, j < A.length → lb A B t (j + 1) ≤ q.2.getD j 0
  diag : 2 ≤ t → q.2.getD (t - 2) 0 ≤ 2 + pa A B (t - 1)
  fin : t = A.length → q.1 ≤ 4 + pa A B (t - 1)
  res : 1 ≤ t → q.1 = q.2.getD (A.length - 1) 0
theorem inAll_L {A B Y : List Nat} (h : Shift A B Y) {t : Nat} (ht : t < A.length) {q : Int × List Int} (o : OutL A B t q) : InL A B t A.length (inAll (Y.getD t 0) A ((t : Int) * 2) q.2) := by
  unfold inAll
  refine fold_inv _ (fun k st => InL A B t k st) _ ?_ _ fun k hk st i => i.step h ht hk
  refine ⟨o.len, fun _ => Int.mul_comm _ _, fun z => absurd z (Nat.not_succ_le_zero 0), fun _ => Int.mul_comm _ _, fun z => absurd z (Nat.not_succ_le_zero 0), fun j _ hj => o.low j hj, fun j hj => absurd hj (Nat.not_lt_zero j), fun hk => o.diag hk, fun e => ?_, fun h1 h2 => absurd (Nat.le_trans h1 h2) (Nat.not_succ_le_zero 0), fun _ z => absurd z (Nat.not_succ_le_zero 0), fun _ h2 => absurd h2.symm (Nat.succ_ne_zero t), fun z => absurd z (Nat.not_succ_le_zero 0)⟩
  subst e
  show ((0 + 1 : Nat) : Int) * 2 ≤ 2 + 0
  decide
theorem pa_last {A B Y : List Nat} (h : Shift A B Y) : ∃ m, A.length = m + 1 ∧ 1 ≤ m ∧ pa A B A.length = pa A B m + 2 := by
  have h2 := h.two
  obtain ⟨m, hm⟩ : ∃ m, A.length = m + 1 := ⟨A.length - 1, by omega⟩
  refine ⟨m, hm, by omega, ?_⟩
  have hl := h.last
  rw [hm, Nat.add_sub_cancel] at hl
  rw [hm, pa_succ, hl]
theorem levCore_shift {A B Y : List Nat} {b : Int} (h : Shift A B Y) (hb : pa A B A.length + 1 ≤ b) : levCore A Y b = pa A B A.length + 2 := by
  obtain ⟨m, hm, hm1, hpm⟩ := pa_last h
  have h1 : 1 ≤ A.length := by rw [hm]; exact Nat.succ_pos m
  have h0 := (pa_le h.price m (by rw [hm]; exact Nat.le_succ m)).1
  have key : (fun t st => ∃ q : Int × List Int, st = some q ∧ OutL A B t q) Y.length ((upto Y.length).foldl (outStep A Y b) (some (0, row0 A.length))) := by
    refine fold_inv _ (fun t st => ∃ q : Int × List Int, st = some q ∧ OutL A B t q) _ ?_ _ fun t ht st hst => ?_
    · refine ⟨_, rfl, by simp [row0, rangeInts], fun j hj => ?_, fun hz => absurd hz (by decide), fun hz => absurd hz (Nat.ne_of_lt h1), fun hz => absurd hz (by decide)⟩
      rw [row0_getD hj]
      show 2 * ((j + 1 : Nat) : Int) ≤ _
      clear h0 hb hpm
      omega
    · obtain ⟨q, rfl, o⟩ := hst
      have ht' : t < A.length := by rw [← h.len]; exact ht
      have I := inAll_L h ht' o
      have hm : (inAll (Y.getD t 0) A ((t : Int) * 2) q.2).2.2.1 ≤ b := by
        rcases Nat.eq_zero_or_pos t with e | e
        · have h3 := I.zero e h1
          clear I o h1 ht ht'
          omega
        · have h4 := (I.after e (Nat.le_of_lt ht')).2
          have h5 := pa_mono h.price t m (by rw [hm] at ht'; exact Nat.le_of_lt_succ ht') (by rw [hm]; exact Nat.le_succ m)
          clear I o h1 ht ht' h0 e
          omega
      unfold outStep
      simp only [Option.bind_some, Int.toNat_natCast]
      rw [if_neg (Int.not_lt.mpr hm)]
      exact ⟨_, rfl, I.len, fun j hj => I.new j hj, fun h1 => (I.after (Nat.le_of_succ_le_succ h1) (Nat.le_of_lt ht')).1, fun h1 => I.nxt (Nat.le_of_succ_le_succ (Nat.le_trans h.two (Nat.le_of_eq h1.symm))) h1.symm, fun _ => I.last h1⟩
  unfold levCore
  obtain ⟨q, e, o⟩ := key
  rw [e]
  rw [h.len] at o
  have h3 := o.fin rfl
  have h4 := o.res h1
  have h5 := o.low (A.length - 1) (Nat.sub_lt h1 Nat.one_pos)
  rw [hm, Nat.add_sub_cancel] at h3 h4 h5
  rw [lb_hi (.inr ⟨rfl, hm1⟩), ← hm, ← h4] at h5
  show q.1 = _
  clear h4 h0 hb
  omega
end Mine

-- P29
open PySem PySem.W PyProof.Rows PyProof
set_option Elab.async false
set_option maxRecDepth 100000
set_option linter.unusedVariables false
namespace Mine
theorem cost_ends : ∀ c ∈ codesS, costN 121 c = 2 ∧ costN c 122 = 2 := by decide +kernel
theorem cost_yz : costN 121 122 = 2 := by decide +kernel
theorem tl_z : tl (Str.ofString "z") = [122] := by decide +kernel
theorem tl_y : tl (Str.ofString "y") = [121] := by decide +kernel
theorem tl_yz : tl (Str.ofString "yz") = [121, 122] := by decide +kernel
theorem word_head (ws : List (Int × Int × Int)) (r : List Nat) : ∀ m, ∃ q, wordP ws r m = r.getD 0 0 :: 34 :: q
  | 0 => ⟨[], rfl⟩
  | m + 1 => by
    obtain ⟨q, e⟩ := word_head ws r m
    exact ⟨_, by rw [wordP, e]; rfl⟩
theorem cp_ne {a b : Nat} {r q : List Nat} (h : a ≠ b) : cp (a :: r) (b :: q) = 0 := by
  unfold cp; rw [if_neg h]
theorem cp_app : ∀ (X Y : List Nat), cp X (X ++ Y) = X.length
  | [], Y => by cases Y <;> rfl
  | a :: r, Y => by
    show cp (a :: r) (a :: (r ++ Y)) = _
    unfold cp
    rw [if_pos rfl, cp_app r Y]; rfl
theorem getD_snoc (A : List Nat) (x : Nat) : (A ++ [x]).getD A.length 0 = x := getD_app_right A [x] 0
theorem in_codes {A : List Nat} (h : ∀ c ∈ A, c ∈ codesS) {k : Nat} (hk : k < A.length) : A.getD k 0 ∈ codesS := by
  rw [List.getD_eq_getElem?_getD, List.getElem?_eq_getElem hk]; exact h _ (List.getElem_mem _)
theorem shift_of {A B : List Nat} (h : Price A B) (hA : ∀ c ∈ A, c ∈ codesS) (hB : ∀ c ∈ B, c ∈ codesS) (h1 : 2 ≤ A.length) (ha : A.getD 1 0 = 34) (hb : B.getD 1 0 = 34) (hb0 : costN (B.getD 0 0) 34 = 2) : Shift (A ++ [122]) (B ++ [121]) (121 :: B) := by
  have hl := h.len
  have hn : (A ++ [122]).length = A.length + 1 := by rw [List.length_append]; rfl
  have ea : ∀ k, k < A.length → (A ++ [122]).getD k 0 = A.getD k 0 := fun k hk => getD_app_left hk
  have eb : ∀ k, k < A.length → (B ++ [121]).getD k 0 = B.getD k 0 := fun k hk => getD_app_left (hl ▸ hk)
  have ea2 : (A ++ [122]).getD A.length 0 = 122 := getD_snoc A 122
  have eb2 : (B ++ [121]).getD A.length 0 = 121 := by rw [hl]; exact getD_snoc B 121
  have first : ∀ k, k < A.length + 1 → costN 121 ((A ++ [122]).getD k 0) = 2 := fun k hk => by
    by_cases e : k = A.length
    · rw [e, ea2]; exact cost_yz
    · rw [ea k (by omega)]; exact (cost_ends _ (in_codes hA (by omega))).1
  have lastc : ∀ k, k < A.length + 1 → costN ((B ++ [121]).getD k 0) 122 = 2 := fun k hk => by
    by_cases e : k = A.length
    · rw [e, eb2]; exact cost_yz
    · rw [eb k (by omega)]; exact (cost_ends _ (in_codes hB (by omega))).2
  refine ⟨⟨by rw [List.length_append, List.length_append, hl]; rfl, fun k t hk ht => ?_, fun k hk => ?_⟩, by omega, by rw [hn, hl]; rfl, fun k hk => first k (by omega), fun t ht => ?_, ?_, ?_, ?_⟩
  · rw [hn] at hk ht
    by_cases e : k = A.length
    · rw [e, ea2, lastc _ (by omega), lastc _ ht]; decide
    · rw [ea k (by omega), eb k (by omega)]
      by_cases e2 : t = A.length
      · rw [e2, eb2, (cost_ends _ (in_codes hA (by omega))).1]
        exact (h.bd k (by omega)).2
      · rw [eb t (by omega)]
        exact h.low k t (by omega) (by omega)
  · rw [hn] at hk
    by_cases e : k = A.length
    · rw [e, ea2, lastc _ (by omega)]; decide
    · rw [ea k (by omega), eb k (by omega)]
      exact h.bd k (by omega)
  · rw [hn] at ht
    rw [eb t (by omega)]; rfl
  · rw [ea 1 h1, eb 0 (by omega), ha]; exact hb0
  · rw [ea 1 h1, eb 1 h1, ha, hb]; exact costN_self _
  · rw [hn, Nat.add_sub_cancel, ea2, eb2]; exact cost_yz
theorem cost_a : costN 97 34 = 2 := by decide +kernel
theorem tl_cat (a b : Str) : tl (a ++ b) = tl a ++ tl b := Array.toList_append
/-- one sign more behind, one more ahead: 4 farther -/
theorem lev_zy {ws : List (Int × Int × Int)} (hg : GoodWays ws) (b : Int) (hb : dueT (treeW ws) ws.length 0 + 4 ≤ b) : levF (tl (wordS ws ws.length ++ Str.ofString "z")) (tl (Str.ofString "y" ++ wordS ws 0)) b = dueT (treeW ws) ws.length 0 + 4 := by
  have hl := hg.len
  have h1 := rowW_all hg ws.length ws.length (by omega) (by omega)
  have h2 := rowW_all hg ws.length 0 (by omega) (by omega)
  have hp := word_price (ws := ws) h1.1 h2.1 (by omega) (by omega)
  have he := word_pa ws (rowW ws ws.length) (rowW ws 0) (ws.length - 1)
  rw [show ws.length - 1 + 1 = ws.length by omega, ← due_pa hg (by omega) (Nat.le_refl _)] at he
  obtain ⟨_, hA⟩ := word_cls (ws := ws) h1.1 (by omega) (by omega) ws.length (Nat.le_refl _)
  obtain ⟨_, hB⟩ := word_cls (ws := ws) h2.1 (by omega) (by omega) ws.length (Nat.le_refl _)
  obtain ⟨qa, ea⟩ := word_head ws (rowW ws ws.length) ws.length
  obtain ⟨qb, eb⟩ := word_head ws (rowW ws 0) ws.length
  have hr0 := h2.2 0 (Nat.zero_le _) (by omega)
  rw [tl_cat, tl_cat, tl_word, tl_word, tl_z, tl_y]
  generalize wordP ws (rowW ws ws.length) ws.length = A at *
  generalize wordP ws (rowW ws 0) ws.length = B at *
  have hs : Shift (A ++ [122]) (B ++ [121]) (121 :: B) := shift_of hp hA hB (by rw [ea]; simp) (by rw [ea]; rfl) (by rw [eb]; rfl) (by rw [eb]; show costN ((rowW ws 0).getD 0 0) 34 = 2; rw [hr0]; exact cost_a)
  have hda : pa A B A.length = dueT (treeW ws) ws.length 0 := he
  have hlab := hp.len
  have hpa : pa (A ++ [122]) (B ++ [121]) (A ++ [122]).length = dueT (treeW ws) ws.length 0 + 2 := by
    have hn1 : (A ++ [122]).length = A.length + 1 := by rw [List.length_append]; rfl
    rw [hn1, pa_app hlab, hda]
    show _ + (0 + costN 121 122) = _
    rw [cost_yz]; omega
  have hc := levCore_shift hs (b := b) (by rw [hpa]; omega)
  have hd0 := (pa_le hp A.length (Nat.le_refl _)).1
  have ha0 : (rowW ws ws.length).getD 0 0 ∈ codesS := hA _ (by rw [ea]; exact .head _)
  have hcp : cp (A ++ [122]) (121 :: B) = 0 := by
    rw [ea]
    exact cp_ne fun e => by rw [e] at ha0; exact absurd ha0 (by decide)
  have hne : A ++ [122] ≠ 121 :: B := fun e => by
    rw [ea] at e
    injection e with e1 _
    rw [e1] at ha0; exact absurd ha0 (by decide)
  have hcr : cp (A ++ [122]).reverse ((121 : Nat) :: B).reverse = 0 := by
    have er1 : (A ++ [122]).reverse = 122 :: A.reverse := by rw [List.reverse_append]; rfl
    have er2 : ((121 : Nat) :: B).reverse = B.reverse ++ [121] := List.reverse_cons
    rw [er1, er2]
    cases hB' : B.reverse with
    | nil => exact cp_ne (a := 122) (b := 121) (by decide)
    | cons c q =>
      refine cp_ne (a := 122) (b := c) fun e => ?_
      have : c ∈ codesS := hB c (List.mem_reverse.mp (by rw [hB']; exact .head _))
      rw [← e] at this; exact absurd this (by decide)
  show levF (A ++ [122]) (121 :: B) b = _
  unfold levF
  rw [if_neg hne]
  dsimp only
  rw [hcp]
  simp only [List.drop_zero]
  rw [hcr, Nat.sub_zero, Nat.sub_zero, List.take_length, List.take_length]
  unfold levG
  rw [if_neg (by rintro (h | h) <;> simp at h), if_neg (by rw [hs.len]; exact Nat.lt_irrefl _), if_neg (by rw [hs.len]; omega), hc, hpa]
  omega
theorem due_bd {ws : List (Int × Int × Int)} (hg : GoodWays ws) : 0 ≤ dueT (treeW ws) ws.length 0 ∧ dueT (treeW ws) ws.length 0 ≤ 20 := by
  have hl := hg.len
  have h1 := rowW_all hg ws.length ws.length (by omega) (by omega)
  have h2 := rowW_all hg ws.length 0 (by omega) (by omega)
  have hp := word_price (ws := ws) h1.1 h2.1 (by omega) (by omega)
  have he := word_pa ws (rowW ws ws.length) (rowW ws 0) (ws.length - 1)
  rw [show ws.length - 1 + 1 = ws.length by omega, ← due_pa hg (by omega) (Nat.le_refl _)] at he
  have h3 := pa_le hp _ (Nat.le_refl _)
  rw [he] at h3
  have h4 := wordP_len hg (rowW ws ws.length) ws.length (Nat.le_refl _)
  omega
/-- two signs ahead, even for a bound of 0 -/
theorem lev_four {ws : List (Int × Int × Int)} (hg : GoodWays ws) (b : Int) : levF (tl (wordS ws 0)) (tl (Str.ofString "yz" ++ wordS ws 0)) b = 4 := by
  have hl := hg.len
  have h2 := rowW_all hg ws.length 0 (by omega) (by omega)
  obtain ⟨qb, eb⟩ := word_head ws (rowW ws 0) ws.length
  have hr0 := h2.2 0 (Nat.zero_le _) (by omega)
  rw [tl_cat, tl_word, tl_yz]
  rw [hr0] at eb
  generalize wordP ws (rowW ws 0) ws.length = B at *
  show levF B (121 :: 122 :: B) b = 4
  have hcp : cp B (121 :: 122 :: B) = 0 := by rw [eb]; exact cp_ne (by decide)
  have hcr : cp B.reverse ((121 : Nat) :: 122 :: B).reverse = B.length := by
    rw [List.reverse_cons, List.reverse_cons, List.append_assoc, cp_app, List.length_reverse]
  have hne : B ≠ 121 :: 122 :: B := fun e => by
    have := congrArg List.length e
    simp only [List.length_cons] at this
    omega
  unfold levF
  rw [if_neg hne]
  dsimp only
  rw [hcp]
  simp only [List.drop_zero]
  rw [hcr, Nat.sub_self, List.take_zero]
  unfold levG
  rw [if_pos (.inl rfl), List.length_take]
  simp only [List.length_cons, List.length_nil]
  omega
end Mine

-- L1P
open PySem PySem.W PyProof.Rows PyProof
set_option Elab.async false
set_option maxRecDepth 100000
set_option maxHeartbeats 8000000
set_option pp.deepTerms false
set_option pp.deepTerms.threshold 6
set_option rowWalk.seconds 0
namespace Mine

theorem item_wayH {prog : Program} {w : World} {A : Around} {E : Value → Shared → Prop} {s : Shared} {value slice : PySem.Expr} {D : Addr} {ws : List (Int × Int × Int)} {k : Int} {u : Tok} {Q : Value → Shared → Prop}
    (hl : WaysIn s.heap D ws) (h0 : 0 ≤ k) (h1 : k < ws.length) (hlen : ws.length ≤ 4)
    (h : ∀ T t u v, IsTup s.heap T #[.int (ws.getD k.toNat (0, 0, 0)).1 t, .int (ws.getD k.toNat (0, 0, 0)).2.1 u, .int (ws.getD k.toNat (0, 0, 0)).2.2 v] → Q (.ref T) s)
    (hs : subscripted slice false (.ref D) (.int k u) = operate [.ref D, .int k u] (getItem (.ref D) (.int k u)) := by with_unfolding_all rfl) :
    wpAny (model prog w) A (subscriptTail value slice (.ref D) (.int k u)) Q E s := by
  obtain ⟨refs, hl, hn, hT⟩ := hl
  obtain ⟨T, t1, t2, t3, hx, hT1⟩ := hT k.toNat (by omega)
  exact tail_any hl.typeIs slot_list_getitem.lookup (wpAny_getItem_list hl h0 (by omega) (by simpa using hx) (h T t1 t2 t3 hT1)) hs

theorem codeRec_stays {h h' : Heap} {v : Value} {q : Str} (st : h.StaysIn h') (x : h.CodeRec v q) : h'.CodeRec v q := by
  obtain ⟨c, oc, vs, t, rfl, e, r⟩ := x
  exact ⟨c, oc, vs, t, rfl, st _ _ e, r⟩
theorem law1_pre {w : World} {p : Program} {loose : List Str} {mean : ExcName → Option Value} {mg mb : Str → Option Value} {a : Addr} {g : Heap} {L : Addr} {s : Shared} {Q : Flow → Shared → Prop} {E : Value → Shared → Prop} {m₀ : Str → Option Value} {SC D W : Addr} {wk : Nat} {wv : List Value} {ws : List (Int × Int × Int)} {onm : Obj} {ow : List (Addr × Obj)}
    (B' : Below callerA g [] g) (F' : Fr g L s.heap (kstB m₀ [(Str.ofString "script", .ref SC), (Str.ofString "ways", .ref D), (Str.ofString "words", .ref W)])) (X' : (hd1.heap_1 w.params).In g) (T' : Top p loose mean mg mb g)
    (N' : News g L s.heap ((L + 1, onm) :: (172, tabObj #[]) :: ow)) (hnm : onm.data = .cell none) (hgw : GoodWays ws)
    (hW : (W, listOf wv.toArray wk) ∈ ow) (hwv : ∀ i, i < ws.length + 1 → ∃ t, wv[i]? = some (.str (wordS ws i) t)) (hway : ∀ h : Heap, (∀ q ∈ ow, h.get? q.1 = some q.2) → WaysIn h D ws)
    (hoff : ∀ q ∈ (172, tabObj #[]) :: ow, q.1 ≠ L + 1) (hot : ∀ q ∈ ow, q.1 ≠ 172)
    (hE : PassesOwn (model PySem.Challenge.rw_rs0157_01.prog w) (callerA.deeper (lawEnv w.params L a (.ref 174))) (lawEnv w.params L a (.ref 174)) E)
    (hcd : CodeHd g 174 172) (hnext : ∀ h' tk' NM onm t kN ps, Fr g L h' (kstB m₀ [(Str.ofString "script", .ref SC), (Str.ofString "ways", .ref D), (Str.ofString "words", .ref W)]) → News g L h' ((NM, listOf #[.str (wordS ws 0) t] kN) :: (L + 1, onm) :: (172, tabObj ps) :: ow) → onm.data = .cell (some (.ref NM)) → NM ≠ L + 1 → (∀ q ∈ (172, tabObj ps) :: ow, q.1 ≠ NM) →
      wpAny (model PySem.Challenge.rw_rs0157_01.prog w) (callerA.deeper (lawEnv w.params L a (.ref 174))) (execs ((lawBody w.params).drop 5) (lawEnv w.params L a (.ref 174))) Q E { s with heap := h', toks := tk' }) :
    wpAny (model PySem.Challenge.rw_rs0157_01.prog w) (callerA.deeper (lawEnv w.params L a (.ref 174))) (execs ((lawBody w.params).drop 2) (lawEnv w.params L a (.ref 174))) Q E s := by
  revert X'
  k_fill
  intro X'
  revert hE
  k_with_none
  w_top off
  generalize hbody : (lawBody w.params).drop 2 = body
  unfold lawEnv
  generalize hscope : lawScope w.params = sc
  conv at hbody => lhs; whnf
  conv at hscope => lhs; whnf
  subst hbody hscope
  intro hE
  dsimp only [kstB] at F'
  (try dsimp only); (try k_fold)
  have hlen := hgw.len
  have hw1 := wordS_len hgw (i := Int.toNat 0)
  have hw0 : (wordS ws (Int.toNat 0)).length ≤ 100 := Nat.le_trans hw1 (by decide)
  (repeat' ((fail_if_success (with_reducible show wpAny _ _ (subscriptTail (PySem.Expr.Name (Str.ofString "words") _) _ _ _) _ _ _)); (fail_if_success (with_reducible show wpAny _ _ (subscriptTail (PySem.Expr.Name (Str.ofString "ways") _) _ _ _) _ _ _)); (fail_if_success (with_reducible show wpAny _ _ (PySem.call (Value.ref 149) _) _ _ _)); (fail_if_success (with_reducible show wpAny _ _ (PySem.call (Value.ref 142) _) _ _ _)); (fail_if_success (with_reducible show wpAny _ _ (PySem.call (Value.ref 121) _) _ _ _)); (fail_if_success (with_reducible show wpAny _ _ (PySem.call (Value.ref 156) _) _ _ _)); (fail_if_success (with_reducible show wpAny _ _ (storeName _ (Str.ofString "names") _) _ _ _)); (fail_if_success (with_reducible show wpAny _ _ (eval (PySem.Expr.Lambda _ _ _ _) _) _ _ _)); (fail_if_success (with_reducible show wpAny _ _ (execs (Stmt.Assign [PySem.Expr.Name (Str.ofString "tree") _] _ _ :: _) _) _ _ _)); first | ((with_reducible show wpAny _ _ (subscriptTail (PySem.Expr.Subscript _ _ _) _ (Value.ref _) (Value.int _ _)) _ _ _); refine tup_at (by first | assumption | exact IsTup.keeps (by assumption) (Fr.keep (by assumption))) (by decide) (by decide) rfl ?_) | ((with_reducible show wpAny _ _ (callWith _ (Value.ref _) _ _ _) _ _ _); refine callWith_K (by k_asm) (by k_is) ?_; (try dsimp only [List.nil_append, List.cons_append])) | (k_unfold; (try dsimp only)) | walk1 | (dsimp only; walk1) | (leave1; try dsimp only)))
  rename Fr g L _ _ => FF
  rename News g L _ _ => NN
  refine name_item (n := ws.length + 1) (word := wordS ws) NN (.tail _ (.tail _ hW)) hwv (by omega) (by omega) (by omega) fun t1 => ?_
  (repeat' ((fail_if_success (with_reducible show wpAny _ _ (subscriptTail (PySem.Expr.Name (Str.ofString "words") _) _ _ _) _ _ _)); (fail_if_success (with_reducible show wpAny _ _ (subscriptTail (PySem.Expr.Name (Str.ofString "ways") _) _ _ _) _ _ _)); (fail_if_success (with_reducible show wpAny _ _ (PySem.call (Value.ref 149) _) _ _ _)); (fail_if_success (with_reducible show wpAny _ _ (PySem.call (Value.ref 142) _) _ _ _)); (fail_if_success (with_reducible show wpAny _ _ (PySem.call (Value.ref 121) _) _ _ _)); (fail_if_success (with_reducible show wpAny _ _ (PySem.call (Value.ref 156) _) _ _ _)); (fail_if_success (with_reducible show wpAny _ _ (storeName _ (Str.ofString "names") _) _ _ _)); (fail_if_success (with_reducible show wpAny _ _ (eval (PySem.Expr.Lambda _ _ _ _) _) _ _ _)); (fail_if_success (with_reducible show wpAny _ _ (execs (Stmt.Assign [PySem.Expr.Name (Str.ofString "tree") _] _ _ :: _) _) _ _ _)); first | ((with_reducible show wpAny _ _ (subscriptTail (PySem.Expr.Subscript _ _ _) _ (Value.ref _) (Value.int _ _)) _ _ _); refine tup_at (by first | assumption | exact IsTup.keeps (by assumption) (Fr.keep (by assumption))) (by decide) (by decide) rfl ?_) | ((with_reducible show wpAny _ _ (callWith _ (Value.ref _) _ _ _) _ _ _); refine callWith_K (by k_asm) (by k_is) ?_; (try dsimp only [List.nil_append, List.cons_append])) | (k_unfold; (try dsimp only)) | walk1 | (dsimp only; walk1) | (leave1; try dsimp only)))
  rename Fr g L _ _ => FF
  rename News g L _ _ => NN
  refine Pure.call (reply_ok _ _) B' FF X' T' NN rfl (by show _ < _; decide) (by show _ < _; decide) hw0 ?_
  rintro v h2 tk2 st2 ⟨t2, rfl⟩ F2 N2
  clear st2 FF NN
  (repeat' ((fail_if_success (with_reducible show wpAny _ _ (subscriptTail (PySem.Expr.Name (Str.ofString "words") _) _ _ _) _ _ _)); (fail_if_success (with_reducible show wpAny _ _ (subscriptTail (PySem.Expr.Name (Str.ofString "ways") _) _ _ _) _ _ _)); (fail_if_success (with_reducible show wpAny _ _ (PySem.call (Value.ref 149) _) _ _ _)); (fail_if_success (with_reducible show wpAny _ _ (PySem.call (Value.ref 142) _) _ _ _)); (fail_if_success (with_reducible show wpAny _ _ (PySem.call (Value.ref 121) _) _ _ _)); (fail_if_success (with_reducible show wpAny _ _ (PySem.call (Value.ref 156) _) _ _ _)); (fail_if_success (with_reducible show wpAny _ _ (storeName _ (Str.ofString "names") _) _ _ _)); (fail_if_success (with_reducible show wpAny _ _ (eval (PySem.Expr.Lambda _ _ _ _) _) _ _ _)); (fail_if_success (with_reducible show wpAny _ _ (execs (Stmt.Assign [PySem.Expr.Name (Str.ofString "tree") _] _ _ :: _) _) _ _ _)); first | ((with_reducible show wpAny _ _ (subscriptTail (PySem.Expr.Subscript _ _ _) _ (Value.ref _) (Value.int _ _)) _ _ _); refine tup_at (by first | assumption | exact IsTup.keeps (by assumption) (Fr.keep (by assumption))) (by decide) (by decide) rfl ?_) | ((with_reducible show wpAny _ _ (callWith _ (Value.ref _) _ _ _) _ _ _); refine callWith_K (by k_asm) (by k_is) ?_; (try dsimp only [List.nil_append, List.cons_append])) | (k_unfold; (try dsimp only)) | walk1 | (dsimp only; walk1) | (leave1; try dsimp only)))
  rename Fr g L _ _ => FF
  rename News g L _ _ => NN
  refine Pure.call (p257r_ok _ _) B' FF X' T' NN rfl (by show _ < _; decide) (by show _ < _; decide) hw0 ?_
  rintro v h3 tk3 st3 ⟨t3, rfl⟩ F3 N3
  clear st3 FF NN
  (repeat' ((fail_if_success (with_reducible show wpAny _ _ (subscriptTail (PySem.Expr.Name (Str.ofString "words") _) _ _ _) _ _ _)); (fail_if_success (with_reducible show wpAny _ _ (subscriptTail (PySem.Expr.Name (Str.ofString "ways") _) _ _ _) _ _ _)); (fail_if_success (with_reducible show wpAny _ _ (PySem.call (Value.ref 149) _) _ _ _)); (fail_if_success (with_reducible show wpAny _ _ (PySem.call (Value.ref 142) _) _ _ _)); (fail_if_success (with_reducible show wpAny _ _ (PySem.call (Value.ref 121) _) _ _ _)); (fail_if_success (with_reducible show wpAny _ _ (PySem.call (Value.ref 156) _) _ _ _)); (fail_if_success (with_reducible show wpAny _ _ (storeName _ (Str.ofString "names") _) _ _ _)); (fail_if_success (with_reducible show wpAny _ _ (eval (PySem.Expr.Lambda _ _ _ _) _) _ _ _)); (fail_if_success (with_reducible show wpAny _ _ (execs (Stmt.Assign [PySem.Expr.Name (Str.ofString "tree") _] _ _ :: _) _) _ _ _)); first | ((with_reducible show wpAny _ _ (subscriptTail (PySem.Expr.Subscript _ _ _) _ (Value.ref _) (Value.int _ _)) _ _ _); refine tup_at (by first | assumption | exact IsTup.keeps (by assumption) (Fr.keep (by assumption))) (by decide) (by decide) rfl ?_) | ((with_reducible show wpAny _ _ (callWith _ (Value.ref _) _ _ _) _ _ _); refine callWith_K (by k_asm) (by k_is) ?_; (try dsimp only [List.nil_append, List.cons_append])) | (k_unfold; (try dsimp only)) | walk1 | (dsimp only; walk1) | (leave1; try dsimp only)))
  rename Fr g L _ _ => FF
  rename News g L _ _ => NN
  rename _ ∧ _ ∧ AllLt _ _ => hl1
  refine storeX_C FF NN (c := L + 1) rfl (UpdF.tail (Nat.ne_of_gt hl1.1) (UpdF.head hoff)) hnm (fun h4 onm4 F4 N4 hnm4 => ?_)
  clear FF NN
  (repeat' ((fail_if_success (with_reducible show wpAny _ _ (subscriptTail (PySem.Expr.Name (Str.ofString "words") _) _ _ _) _ _ _)); (fail_if_success (with_reducible show wpAny _ _ (subscriptTail (PySem.Expr.Name (Str.ofString "ways") _) _ _ _) _ _ _)); (fail_if_success (with_reducible show wpAny _ _ (PySem.call (Value.ref 149) _) _ _ _)); (fail_if_success (with_reducible show wpAny _ _ (PySem.call (Value.ref 142) _) _ _ _)); (fail_if_success (with_reducible show wpAny _ _ (PySem.call (Value.ref 121) _) _ _ _)); (fail_if_success (with_reducible show wpAny _ _ (PySem.call (Value.ref 156) _) _ _ _)); (fail_if_success (with_reducible show wpAny _ _ (storeName _ (Str.ofString "names") _) _ _ _)); (fail_if_success (with_reducible show wpAny _ _ (eval (PySem.Expr.Lambda _ _ _ _) _) _ _ _)); (fail_if_success (with_reducible show wpAny _ _ (execs (Stmt.Assign [PySem.Expr.Name (Str.ofString "tree") _] _ _ :: _) _) _ _ _)); first | ((with_reducible show wpAny _ _ (subscriptTail (PySem.Expr.Subscript _ _ _) _ (Value.ref _) (Value.int _ _)) _ _ _); refine tup_at (by first | assumption | exact IsTup.keeps (by assumption) (Fr.keep (by assumption))) (by decide) (by decide) rfl ?_) | ((with_reducible show wpAny _ _ (callWith _ (Value.ref _) _ _ _) _ _ _); refine callWith_K (by k_asm) (by k_is) ?_; (try dsimp only [List.nil_append, List.cons_append])) | (k_unfold; (try dsimp only)) | walk1 | (dsimp only; walk1) | (leave1; try dsimp only)))
  rename Fr g L _ _ => FF
  rename News g L _ _ => NN
  refine name_item (n := ws.length + 1) (word := wordS ws) NN (.tail _ (.tail _ (.tail _ hW))) hwv (by omega) (by omega) (by omega) fun t4 => ?_
  (repeat' ((fail_if_success (with_reducible show wpAny _ _ (subscriptTail (PySem.Expr.Name (Str.ofString "words") _) _ _ _) _ _ _)); (fail_if_success (with_reducible show wpAny _ _ (subscriptTail (PySem.Expr.Name (Str.ofString "ways") _) _ _ _) _ _ _)); (fail_if_success (with_reducible show wpAny _ _ (PySem.call (Value.ref 149) _) _ _ _)); (fail_if_success (with_reducible show wpAny _ _ (PySem.call (Value.ref 142) _) _ _ _)); (fail_if_success (with_reducible show wpAny _ _ (PySem.call (Value.ref 121) _) _ _ _)); (fail_if_success (with_reducible show wpAny _ _ (PySem.call (Value.ref 156) _) _ _ _)); (fail_if_success (with_reducible show wpAny _ _ (storeName _ (Str.ofString "names") _) _ _ _)); (fail_if_success (with_reducible show wpAny _ _ (eval (PySem.Expr.Lambda _ _ _ _) _) _ _ _)); (fail_if_success (with_reducible show wpAny _ _ (execs (Stmt.Assign [PySem.Expr.Name (Str.ofString "tree") _] _ _ :: _) _) _ _ _)); first | ((with_reducible show wpAny _ _ (subscriptTail (PySem.Expr.Subscript _ _ _) _ (Value.ref _) (Value.int _ _)) _ _ _); refine tup_at (by first | assumption | exact IsTup.keeps (by assumption) (Fr.keep (by assumption))) (by decide) (by decide) rfl ?_) | ((with_reducible show wpAny _ _ (callWith _ (Value.ref _) _ _ _) _ _ _); refine callWith_K (by k_asm) (by k_is) ?_; (try dsimp only [List.nil_append, List.cons_append])) | (k_unfold; (try dsimp only)) | walk1 | (dsimp only; walk1) | (leave1; try dsimp only)))
  any_goals (try (exfalso; rename (_ != _) = true => hb; simp at hb; done))
  rename Fr g L _ _ => FF
  rename News g L _ _ => NN
  refine item_wayH (hway _ fun q hq => (NN q (.tail _ (.tail _ (.tail _ hq)))).1) (by omega) (by omega) (by omega) fun T u1 u2 u3 hT => ?_
  have hg0 := hgw.at' (Int.toNat 0) (by show 0 < _; omega)
  (repeat' ((fail_if_success (with_reducible show wpAny _ _ (subscriptTail (PySem.Expr.Name (Str.ofString "words") _) _ _ _) _ _ _)); (fail_if_success (with_reducible show wpAny _ _ (subscriptTail (PySem.Expr.Name (Str.ofString "ways") _) _ _ _) _ _ _)); (fail_if_success (with_reducible show wpAny _ _ (PySem.call (Value.ref 149) _) _ _ _)); (fail_if_success (with_reducible show wpAny _ _ (PySem.call (Value.ref 142) _) _ _ _)); (fail_if_success (with_reducible show wpAny _ _ (PySem.call (Value.ref 121) _) _ _ _)); (fail_if_success (with_reducible show wpAny _ _ (PySem.call (Value.ref 156) _) _ _ _)); (fail_if_success (with_reducible show wpAny _ _ (storeName _ (Str.ofString "names") _) _ _ _)); (fail_if_success (with_reducible show wpAny _ _ (eval (PySem.Expr.Lambda _ _ _ _) _) _ _ _)); (fail_if_success (with_reducible show wpAny _ _ (execs (Stmt.Assign [PySem.Expr.Name (Str.ofString "tree") _] _ _ :: _) _) _ _ _)); first | ((with_reducible show wpAny _ _ (subscriptTail (PySem.Expr.Subscript _ _ _) _ (Value.ref _) (Value.int _ _)) _ _ _); refine tup_at (by first | assumption | exact IsTup.keeps (by assumption) (Fr.keep (by assumption))) (by decide) (by decide) rfl ?_) | ((with_reducible show wpAny _ _ (callWith _ (Value.ref _) _ _ _) _ _ _); refine callWith_K (by k_asm) (by k_is) ?_; (try dsimp only [List.nil_append, List.cons_append])) | (k_unfold; (try dsimp only)) | walk1 | (dsimp only; walk1) | (leave1; try dsimp only)))
  rename Fr g L _ _ => FF
  rename News g L _ _ => NN
  refine Pure.call (port_ok T _ _ _ _ _ _) B' FF X' T' NN rfl (by show _ < _; decide) (by show _ < _; decide) ⟨hT, hg0.1, Int.le_trans hg0.2.1 (by decide), hg0.2.2.1, hg0.2.2.2.1, hg0.2.2.2.2.1, hg0.2.2.2.2.2⟩ ?_
  rintro v h5 tk5 st5 ⟨t5, rfl⟩ F5 N5
  clear st5 FF NN
  have hpb := port_bad hg0.1 (Int.le_trans hg0.2.1 (by decide)) hg0.2.2.1 hg0.2.2.2.1 hg0.2.2.2.2.1 hg0.2.2.2.2.2
  obtain ⟨xp, hxp⟩ : ∃ xp, xp = portF (ws.getD (Int.toNat 0) (0, 0, 0)).1 (ws.getD (Int.toNat 0) (0, 0, 0)).2.1 (ws.getD (Int.toNat 0) (0, 0, 0)).2.2 := ⟨_, rfl⟩
  rw [← hxp] at hpb ⊢
  clear hxp hg0 hT
  obtain ⟨hp1, hp2, hp3⟩ := hpb
  (repeat' ((fail_if_success (with_reducible show wpAny _ _ (subscriptTail (PySem.Expr.Name (Str.ofString "words") _) _ _ _) _ _ _)); (fail_if_success (with_reducible show wpAny _ _ (subscriptTail (PySem.Expr.Name (Str.ofString "ways") _) _ _ _) _ _ _)); (fail_if_success (with_reducible show wpAny _ _ (PySem.call (Value.ref 149) _) _ _ _)); (fail_if_success (with_reducible show wpAny _ _ (PySem.call (Value.ref 142) _) _ _ _)); (fail_if_success (with_reducible show wpAny _ _ (PySem.call (Value.ref 121) _) _ _ _)); (fail_if_success (with_reducible show wpAny _ _ (PySem.call (Value.ref 156) _) _ _ _)); (fail_if_success (with_reducible show wpAny _ _ (storeName _ (Str.ofString "names") _) _ _ _)); (fail_if_success (with_reducible show wpAny _ _ (eval (PySem.Expr.Lambda _ _ _ _) _) _ _ _)); (fail_if_success (with_reducible show wpAny _ _ (execs (Stmt.Assign [PySem.Expr.Name (Str.ofString "tree") _] _ _ :: _) _) _ _ _)); first | ((with_reducible show wpAny _ _ (subscriptTail (PySem.Expr.Subscript _ _ _) _ (Value.ref _) (Value.int _ _)) _ _ _); refine tup_at (by first | assumption | exact IsTup.keeps (by assumption) (Fr.keep (by assumption))) (by decide) (by decide) rfl ?_) | ((with_reducible show wpAny _ _ (callWith _ (Value.ref _) _ _ _) _ _ _); refine callWith_K (by k_asm) (by k_is) ?_; (try dsimp only [List.nil_append, List.cons_append])) | (k_unfold; (try dsimp only)) | walk1 | (dsimp only; walk1) | (leave1; try dsimp only)))
  rename Fr g L _ _ => FF
  rename News g L _ _ => NN
  refine refused_ok (Pre := fun h => FnAt 121 h) B' FF X' T' NN rfl (reader1 hp1 (by omega) hp3) ?hpre (fun _ h => h) ?hmono (fun h6 tk6 F6 N6 => ?_)
  case hpre => exact ⟨_, _, _, _, FF.keep _ _ (X' _ _ (by k_is))⟩
  case hmono => exact fun h st => ⟨_, _, _, _, st _ _ (FF.keep _ _ (X' _ _ (by k_is)))⟩
  clear FF NN hp1 hp2 hp3
  have hct : L + 1 ≠ 172 := fun e => hoff _ (.head _) e.symm
  (repeat' ((fail_if_success (with_reducible show wpAny _ _ (subscriptTail (PySem.Expr.Name (Str.ofString "words") _) _ _ _) _ _ _)); (fail_if_success (with_reducible show wpAny _ _ (subscriptTail (PySem.Expr.Name (Str.ofString "ways") _) _ _ _) _ _ _)); (fail_if_success (with_reducible show wpAny _ _ (PySem.call (Value.ref 149) _) _ _ _)); (fail_if_success (with_reducible show wpAny _ _ (PySem.call (Value.ref 142) _) _ _ _)); (fail_if_success (with_reducible show wpAny _ _ (PySem.call (Value.ref 121) _) _ _ _)); (fail_if_success (with_reducible show wpAny _ _ (PySem.call (Value.ref 156) _) _ _ _)); (fail_if_success (with_reducible show wpAny _ _ (storeName _ (Str.ofString "names") _) _ _ _)); (fail_if_success (with_reducible show wpAny _ _ (eval (PySem.Expr.Lambda _ _ _ _) _) _ _ _)); (fail_if_success (with_reducible show wpAny _ _ (execs (Stmt.Assign [PySem.Expr.Name (Str.ofString "tree") _] _ _ :: _) _) _ _ _)); first | ((with_reducible show wpAny _ _ (subscriptTail (PySem.Expr.Subscript _ _ _) _ (Value.ref _) (Value.int _ _)) _ _ _); refine tup_at (by first | assumption | exact IsTup.keeps (by assumption) (Fr.keep (by assumption))) (by decide) (by decide) rfl ?_) | ((with_reducible show wpAny _ _ (callWith _ (Value.ref _) _ _ _) _ _ _); refine callWith_K (by k_asm) (by k_is) ?_; (try dsimp only [List.nil_append, List.cons_append])) | (k_unfold; (try dsimp only)) | walk1 | (dsimp only; walk1) | (leave1; try dsimp only)))
  rename Fr g L _ _ => FF
  rename News g L _ _ => NN
  refine kla_eval rfl ?_
  refine kla_nest FF NN T' hcd rfl (UpdF.tail (Nat.ne_of_gt hl1.2.1) (UpdF.tail hct (UpdF.head hot))) (by kn_triples) (by kn_among) rfl (fun lm c' oc vs t6 ctv h7 tk7 F7 N7 d1 d2 l1 l2 => ?_)
  clear FF NN l1 l2
  dsimp only at N7
  (repeat' ((fail_if_success (with_reducible show wpAny _ _ (subscriptTail (PySem.Expr.Name (Str.ofString "words") _) _ _ _) _ _ _)); (fail_if_success (with_reducible show wpAny _ _ (subscriptTail (PySem.Expr.Name (Str.ofString "ways") _) _ _ _) _ _ _)); (fail_if_success (with_reducible show wpAny _ _ (PySem.call (Value.ref 149) _) _ _ _)); (fail_if_success (with_reducible show wpAny _ _ (PySem.call (Value.ref 142) _) _ _ _)); (fail_if_success (with_reducible show wpAny _ _ (PySem.call (Value.ref 121) _) _ _ _)); (fail_if_success (with_reducible show wpAny _ _ (PySem.call (Value.ref 156) _) _ _ _)); (fail_if_success (with_reducible show wpAny _ _ (storeName _ (Str.ofString "names") _) _ _ _)); (fail_if_success (with_reducible show wpAny _ _ (eval (PySem.Expr.Lambda _ _ _ _) _) _ _ _)); (fail_if_success (with_reducible show wpAny _ _ (execs (Stmt.Assign [PySem.Expr.Name (Str.ofString "tree") _] _ _ :: _) _) _ _ _)); first | ((with_reducible show wpAny _ _ (subscriptTail (PySem.Expr.Subscript _ _ _) _ (Value.ref _) (Value.int _ _)) _ _ _); refine tup_at (by first | assumption | exact IsTup.keeps (by assumption) (Fr.keep (by assumption))) (by decide) (by decide) rfl ?_) | ((with_reducible show wpAny _ _ (callWith _ (Value.ref _) _ _ _) _ _ _); refine callWith_K (by k_asm) (by k_is) ?_; (try dsimp only [List.nil_append, List.cons_append])) | (k_unfold; (try dsimp only)) | walk1 | (dsimp only; walk1) | (leave1; try dsimp only)))
  rename Fr g L _ _ => FF
  rename News g L _ _ => NN
  refine name_item (n := ws.length + 1) (word := wordS ws) NN (.tail _ (.tail _ (.tail _ (.tail _ (.tail _ hW))))) hwv (by omega) (by omega) (by omega) fun t9 => ?_
  (repeat' ((fail_if_success (with_reducible show wpAny _ _ (subscriptTail (PySem.Expr.Name (Str.ofString "words") _) _ _ _) _ _ _)); (fail_if_success (with_reducible show wpAny _ _ (subscriptTail (PySem.Expr.Name (Str.ofString "ways") _) _ _ _) _ _ _)); (fail_if_success (with_reducible show wpAny _ _ (PySem.call (Value.ref 149) _) _ _ _)); (fail_if_success (with_reducible show wpAny _ _ (PySem.call (Value.ref 142) _) _ _ _)); (fail_if_success (with_reducible show wpAny _ _ (PySem.call (Value.ref 121) _) _ _ _)); (fail_if_success (with_reducible show wpAny _ _ (PySem.call (Value.ref 156) _) _ _ _)); (fail_if_success (with_reducible show wpAny _ _ (storeName _ (Str.ofString "names") _) _ _ _)); (fail_if_success (with_reducible show wpAny _ _ (eval (PySem.Expr.Lambda _ _ _ _) _) _ _ _)); (fail_if_success (with_reducible show wpAny _ _ (execs (Stmt.Assign [PySem.Expr.Name (Str.ofString "tree") _] _ _ :: _) _) _ _ _)); first | ((with_reducible show wpAny _ _ (subscriptTail (PySem.Expr.Subscript _ _ _) _ (Value.ref _) (Value.int _ _)) _ _ _); refine tup_at (by first | assumption | exact IsTup.keeps (by assumption) (Fr.keep (by assumption))) (by decide) (by decide) rfl ?_) | ((with_reducible show wpAny _ _ (callWith _ (Value.ref _) _ _ _) _ _ _); refine callWith_K (by k_asm) (by k_is) ?_; (try dsimp only [List.nil_append, List.cons_append])) | (k_unfold; (try dsimp only)) | walk1 | (dsimp only; walk1) | (leave1; try dsimp only)))
  rename Fr g L _ _ => FF
  rename News g L _ _ => NN
  refine Pure.call (reply_ok _ _) B' FF X' T' NN rfl (by show _ < _; decide) (by show _ < _; decide) hw0 ?_
  rintro v h8 tk8 st8 ⟨t8, rfl⟩ F8 N8
  clear st8 FF NN
  have hrb := reply_bad (wordS ws (Int.toNat 0)) hw1
  obtain ⟨xr, hxr⟩ : ∃ xr, xr = replyF (wordS ws (Int.toNat 0)) := ⟨_, rfl⟩
  rw [← hxr] at hrb ⊢
  clear hxr
  (repeat' ((fail_if_success (with_reducible show wpAny _ _ (subscriptTail (PySem.Expr.Name (Str.ofString "words") _) _ _ _) _ _ _)); (fail_if_success (with_reducible show wpAny _ _ (subscriptTail (PySem.Expr.Name (Str.ofString "ways") _) _ _ _) _ _ _)); (fail_if_success (with_reducible show wpAny _ _ (PySem.call (Value.ref 149) _) _ _ _)); (fail_if_success (with_reducible show wpAny _ _ (PySem.call (Value.ref 142) _) _ _ _)); (fail_if_success (with_reducible show wpAny _ _ (PySem.call (Value.ref 121) _) _ _ _)); (fail_if_success (with_reducible show wpAny _ _ (PySem.call (Value.ref 156) _) _ _ _)); (fail_if_success (with_reducible show wpAny _ _ (storeName _ (Str.ofString "names") _) _ _ _)); (fail_if_success (with_reducible show wpAny _ _ (eval (PySem.Expr.Lambda _ _ _ _) _) _ _ _)); (fail_if_success (with_reducible show wpAny _ _ (execs (Stmt.Assign [PySem.Expr.Name (Str.ofString "tree") _] _ _ :: _) _) _ _ _)); first | ((with_reducible show wpAny _ _ (subscriptTail (PySem.Expr.Subscript _ _ _) _ (Value.ref _) (Value.int _ _)) _ _ _); refine tup_at (by first | assumption | exact IsTup.keeps (by assumption) (Fr.keep (by assumption))) (by decide) (by decide) rfl ?_) | ((with_reducible show wpAny _ _ (callWith _ (Value.ref _) _ _ _) _ _ _); refine callWith_K (by k_asm) (by k_is) ?_; (try dsimp only [List.nil_append, List.cons_append])) | (k_unfold; (try dsimp only)) | walk1 | (dsimp only; walk1) | (leave1; try dsimp only)))
  rename Fr g L _ _ => FF
  rename News g L _ _ => NN
  have hlo := (NN _ (.head _)).1
  have hcr := codeRec_news NN (.tail _ (.head _)) d1 d2
  refine refused_ok B' FF X' T' NN rfl (reader2 (by with_unfolding_all exact ⟨rfl, rfl, rfl⟩) hrb.1 hrb.2.1 hrb.2.2) ⟨hlo, hcr⟩ (fun _ h => ⟨_, _, _, _, h.1⟩) (fun h st => ⟨st _ _ hlo, codeRec_stays st hcr⟩) (fun h9 tk9 F9 N9 => ?_)
  clear FF NN hrb hlo hcr
  (repeat' ((fail_if_success (with_reducible show wpAny _ _ (subscriptTail (PySem.Expr.Name (Str.ofString "words") _) _ _ _) _ _ _)); (fail_if_success (with_reducible show wpAny _ _ (subscriptTail (PySem.Expr.Name (Str.ofString "ways") _) _ _ _) _ _ _)); (fail_if_success (with_reducible show wpAny _ _ (PySem.call (Value.ref 149) _) _ _ _)); (fail_if_success (with_reducible show wpAny _ _ (PySem.call (Value.ref 142) _) _ _ _)); (fail_if_success (with_reducible show wpAny _ _ (PySem.call (Value.ref 121) _) _ _ _)); (fail_if_success (with_reducible show wpAny _ _ (PySem.call (Value.ref 156) _) _ _ _)); (fail_if_success (with_reducible show wpAny _ _ (storeName _ (Str.ofString "names") _) _ _ _)); (fail_if_success (with_reducible show wpAny _ _ (eval (PySem.Expr.Lambda _ _ _ _) _) _ _ _)); (fail_if_success (with_reducible show wpAny _ _ (execs (Stmt.Assign [PySem.Expr.Name (Str.ofString "tree") _] _ _ :: _) _) _ _ _)); first | ((with_reducible show wpAny _ _ (subscriptTail (PySem.Expr.Subscript _ _ _) _ (Value.ref _) (Value.int _ _)) _ _ _); refine tup_at (by first | assumption | exact IsTup.keeps (by assumption) (Fr.keep (by assumption))) (by decide) (by decide) rfl ?_) | ((with_reducible show wpAny _ _ (callWith _ (Value.ref _) _ _ _) _ _ _); refine callWith_K (by k_asm) (by k_is) ?_; (try dsimp only [List.nil_append, List.cons_append])) | (k_unfold; (try dsimp only)) | walk1 | (dsimp only; walk1) | (leave1; try dsimp only)))
  rename Fr g L _ _ => FF
  rename News g L _ _ => NN
  exact hnext _ _ _ _ _ _ _ FF (News.sub NN (fun q hq => .tail _ (.tail _ hq))) hnm4 (Nat.ne_of_gt hl1.1) (List.forall_mem_cons.mpr ⟨Nat.ne_of_lt hl1.2.1, fun q hq => allLt_ne hl1.2.2 q hq⟩)
end Mine

-- L1T
open PySem PySem.W PyProof.Rows PyProof
set_option Elab.async false
set_option maxRecDepth 100000
set_option maxHeartbeats 8000000
set_option pp.deepTerms false
set_option pp.deepTerms.threshold 6
set_option rowWalk.seconds 0
namespace Mine

theorem law1_tree {w : World} {p : Program} {loose : List Str} {mean : ExcName → Option Value} {mg mb : Str → Option Value} {a : Addr} {g : Heap} {L : Addr} {s : Shared} {Q : Flow → Shared → Prop} {E : Value → Shared → Prop} {m₀ : Str → Option Value} {SC D W NM : Addr} {wk kN : Nat} {wv : List Value} {ws : List (Int × Int × Int)} {onm : Obj} {t0 : Tok} {ow t : Led}
    (B' : Below callerA g [] g) (F' : Fr g L s.heap (kstB m₀ [(Str.ofString "script", .ref SC), (Str.ofString "ways", .ref D), (Str.ofString "words", .ref W)])) (X' : (hd1.heap_1 w.params).In g) (T' : Top p loose mean mg mb g)
    (N' : News g L s.heap ((NM, listOf #[.str (wordS ws 0) t0] kN) :: (L + 1, onm) :: (ow ++ t))) (hnm : onm.data = .cell (some (.ref NM))) (hNM : NM ≠ L + 1) (hgw : GoodWays ws) (hto : TabsOn w t)
    (hW : (W, listOf wv.toArray wk) ∈ ow) (hwv : ∀ i, i < ws.length + 1 → ∃ t, wv[i]? = some (.str (wordS ws i) t)) (hway : ∀ h : Heap, (∀ q ∈ ow, h.get? q.1 = some q.2) → WaysIn h D ws)
    (hoff : ∀ q ∈ ow ++ t, q.1 ≠ NM) (hnt : ∀ q ∈ ow, q.1 ∉ t.map (·.1))
    (hE : PassesOwn (model PySem.Challenge.rw_rs0157_01.prog w) (callerA.deeper (lawEnv w.params L a (.ref 174))) (lawEnv w.params L a (.ref 174)) E)
    (hnext : ∀ h' tk' u TR nv kn kt Ts tl t', Fr g L h' (kstB u [(Str.ofString "script", .ref SC), (Str.ofString "ways", .ref D), (Str.ofString "words", .ref W), (Str.ofString "tree", .ref TR)]) → News g L h' ((TR, listOf (Ts.map Value.ref).toArray kt) :: (NM, listOf nv.toArray kn) :: (L + 1, onm) :: (tl ++ t')) → TrSt w ws ow tl t' NM TR nv Ts ws.length → NM ≠ TR → L + 1 ≠ TR →
      wpAny (model PySem.Challenge.rw_rs0157_01.prog w) (callerA.deeper (lawEnv w.params L a (.ref 174))) (execs ((lawBody w.params).drop 7) (lawEnv w.params L a (.ref 174))) Q E { s with heap := h', toks := tk' }) :
    wpAny (model PySem.Challenge.rw_rs0157_01.prog w) (callerA.deeper (lawEnv w.params L a (.ref 174))) (execs ((lawBody w.params).drop 5) (lawEnv w.params L a (.ref 174))) Q E s := by
  revert X'
  k_fill
  intro X'
  revert hE
  k_with_none
  w_top off
  generalize hbody : (lawBody w.params).drop 5 = body
  unfold lawEnv
  generalize hscope : lawScope w.params = sc
  conv at hbody => lhs; whnf
  conv at hscope => lhs; whnf
  subst hbody hscope
  intro hE
  dsimp only [kstB] at F'
  (try dsimp only); (try k_fold)
  (repeat' ((fail_if_success (with_reducible show wpAny _ _ (exec (Stmt.For _ _ _ _ _) _) _ _ _)); (fail_if_success (with_reducible show wpAny _ _ (pyIter _) _ _ _)); (fail_if_success (with_reducible show wpAny _ _ (subscriptTail (PySem.Expr.Name (Str.ofString "words") _) _ _ _) _ _ _)); (fail_if_success (with_reducible show wpAny _ _ (subscriptTail (PySem.Expr.Name (Str.ofString "ways") _) _ _ _) _ _ _)); (fail_if_success (with_reducible show wpAny _ _ (PySem.call (Value.ref 149) _) _ _ _)); (fail_if_success (with_reducible show wpAny _ _ (PySem.call (Value.ref 142) _) _ _ _)); (fail_if_success (with_reducible show wpAny _ _ (PySem.call (Value.ref 121) _) _ _ _)); (fail_if_success (with_reducible show wpAny _ _ (PySem.call (Value.ref 114) _) _ _ _)); (fail_if_success (with_reducible show wpAny _ _ (PySem.call (Value.ref 70) _) _ _ _)); (fail_if_success (with_reducible show wpAny _ _ (PySem.call (Value.builtin "list.append") _) _ _ _)); (fail_if_success (with_reducible show wpAny _ _ (compareOp CmpOp.NotEq (Value.ref _) (Value.ref _)) _ _ _)); (fail_if_success (with_reducible show wpAny _ _ (newList []) _ _ _)); (fail_if_success (with_reducible show UnrEnd _ _ _ _ _ _ _)); first | ((with_reducible show wpAny _ _ (subscriptTail (PySem.Expr.Subscript _ _ _) _ (Value.ref _) (Value.int _ _)) _ _ _); refine tup_at (by first | assumption | exact IsTup.keeps (by assumption) (Fr.keep (by assumption))) (by decide) (by decide) rfl ?_) | ((with_reducible show wpAny _ _ (subscriptTail (PySem.Expr.Name (Str.ofString "told") _) _ (Value.ref _) (Value.int _ _)) _ _ _); refine tup_at (News.isTup (by assumption) (by k_mem)) (by decide) (by decide) rfl ?_) | ((with_reducible show wpAny _ _ (callWith _ (Value.ref _) _ _ _) _ _ _); refine callWith_K (by k_asm) (by k_is) ?_; (try dsimp only [List.nil_append, List.cons_append])) | (k_unfold; (try dsimp only)) | walk1 | (dsimp only; walk1) | (leave1; try dsimp only)))
  rename Fr g L _ _ => FF
  rename News g L _ _ => NN
  refine newList_K FF NN (fun TR h1 F1 N1 l1 => ?_) (by decide)
  have hTN : NM ≠ TR := Nat.ne_of_lt (l1 _ (.head _))
  have hTR : ∀ q ∈ ow ++ t, q.1 ≠ NM ∧ q.1 ≠ TR := fun q hq => ⟨hoff q hq, Nat.ne_of_lt (l1 q (.tail _ (.tail _ hq)))⟩
  have hTL : L + 1 ≠ TR := Nat.ne_of_lt (l1 _ (.tail _ (.head _)))
  clear l1 FF NN
  (repeat' ((fail_if_success (with_reducible show wpAny _ _ (exec (Stmt.For _ _ _ _ _) _) _ _ _)); (fail_if_success (with_reducible show wpAny _ _ (pyIter _) _ _ _)); (fail_if_success (with_reducible show wpAny _ _ (subscriptTail (PySem.Expr.Name (Str.ofString "words") _) _ _ _) _ _ _)); (fail_if_success (with_reducible show wpAny _ _ (subscriptTail (PySem.Expr.Name (Str.ofString "ways") _) _ _ _) _ _ _)); (fail_if_success (with_reducible show wpAny _ _ (PySem.call (Value.ref 149) _) _ _ _)); (fail_if_success (with_reducible show wpAny _ _ (PySem.call (Value.ref 142) _) _ _ _)); (fail_if_success (with_reducible show wpAny _ _ (PySem.call (Value.ref 121) _) _ _ _)); (fail_if_success (with_reducible show wpAny _ _ (PySem.call (Value.ref 114) _) _ _ _)); (fail_if_success (with_reducible show wpAny _ _ (PySem.call (Value.ref 70) _) _ _ _)); (fail_if_success (with_reducible show wpAny _ _ (PySem.call (Value.builtin "list.append") _) _ _ _)); (fail_if_success (with_reducible show wpAny _ _ (compareOp CmpOp.NotEq (Value.ref _) (Value.ref _)) _ _ _)); (fail_if_success (with_reducible show wpAny _ _ (newList []) _ _ _)); (fail_if_success (with_reducible show UnrEnd _ _ _ _ _ _ _)); first | ((with_reducible show wpAny _ _ (subscriptTail (PySem.Expr.Subscript _ _ _) _ (Value.ref _) (Value.int _ _)) _ _ _); refine tup_at (by first | assumption | exact IsTup.keeps (by assumption) (Fr.keep (by assumption))) (by decide) (by decide) rfl ?_) | ((with_reducible show wpAny _ _ (subscriptTail (PySem.Expr.Name (Str.ofString "told") _) _ (Value.ref _) (Value.int _ _)) _ _ _); refine tup_at (News.isTup (by assumption) (by k_mem)) (by decide) (by decide) rfl ?_) | ((with_reducible show wpAny _ _ (callWith _ (Value.ref _) _ _ _) _ _ _); refine callWith_K (by k_asm) (by k_is) ?_; (try dsimp only [List.nil_append, List.cons_append])) | (k_unfold; (try dsimp only)) | walk1 | (dsimp only; walk1) | (leave1; try dsimp only)))
  rename Fr g L _ _ => FF
  rename News g L _ _ => NN
  obtain ⟨refs, hDl, hrl, _⟩ := hway _ (fun q hq => (NN q (.tail _ (.tail _ (.tail _ (List.mem_append_left _ hq))))).1)
  have hsz : refs.toArray.size = ws.length := by rw [List.size_toArray, hrl]
  have hle : ws.length ≤ 60 := by have := hgw.len; omega
  with_unfolding_all refine' For_invVF FF ?k1 ?k2 ?_ (hE := hE)
  case k1 => exact rfl
  case k2 => exact rfl
  (repeat' ((fail_if_success (with_reducible show wpAny _ _ (exec (Stmt.For _ _ _ _ _) _) _ _ _)); (fail_if_success (with_reducible show wpAny _ _ (pyIter _) _ _ _)); (fail_if_success (with_reducible show wpAny _ _ (subscriptTail (PySem.Expr.Name (Str.ofString "words") _) _ _ _) _ _ _)); (fail_if_success (with_reducible show wpAny _ _ (subscriptTail (PySem.Expr.Name (Str.ofString "ways") _) _ _ _) _ _ _)); (fail_if_success (with_reducible show wpAny _ _ (PySem.call (Value.ref 149) _) _ _ _)); (fail_if_success (with_reducible show wpAny _ _ (PySem.call (Value.ref 142) _) _ _ _)); (fail_if_success (with_reducible show wpAny _ _ (PySem.call (Value.ref 121) _) _ _ _)); (fail_if_success (with_reducible show wpAny _ _ (PySem.call (Value.ref 114) _) _ _ _)); (fail_if_success (with_reducible show wpAny _ _ (PySem.call (Value.ref 70) _) _ _ _)); (fail_if_success (with_reducible show wpAny _ _ (PySem.call (Value.builtin "list.append") _) _ _ _)); (fail_if_success (with_reducible show wpAny _ _ (compareOp CmpOp.NotEq (Value.ref _) (Value.ref _)) _ _ _)); (fail_if_success (with_reducible show wpAny _ _ (newList []) _ _ _)); (fail_if_success (with_reducible show UnrEnd _ _ _ _ _ _ _)); first | ((with_reducible show wpAny _ _ (subscriptTail (PySem.Expr.Subscript _ _ _) _ (Value.ref _) (Value.int _ _)) _ _ _); refine tup_at (by first | assumption | exact IsTup.keeps (by assumption) (Fr.keep (by assumption))) (by decide) (by decide) rfl ?_) | ((with_reducible show wpAny _ _ (subscriptTail (PySem.Expr.Name (Str.ofString "told") _) _ (Value.ref _) (Value.int _ _)) _ _ _); refine tup_at (News.isTup (by assumption) (by k_mem)) (by decide) (by decide) rfl ?_) | ((with_reducible show wpAny _ _ (callWith _ (Value.ref _) _ _ _) _ _ _); refine callWith_K (by k_asm) (by k_is) ?_; (try dsimp only [List.nil_append, List.cons_append])) | (k_unfold; (try dsimp only)) | walk1 | (dsimp only; walk1) | (leave1; try dsimp only)))
  rename Fr g L _ _ => FF
  rename News g L _ _ => NN
  rename IsRange _ _ _ _ _ _ _ _ => hRg
  rw [hsz] at hRg
  have hlen := hgw.len
  have hrs : Builtin.Range.rangeSize 0 (ws.length : Int) 1 = (ws.length : Int) := by rw [rangeSize_nat]; omega
  have hsm : Builtin.Range.small 0 (ws.length : Int) 1 = true := small_range (by omega) (by omega) (by omega) (by omega)
  clear hDl hrl hsz hle
  refine iter_rangeUnr (n := ws.length) (by rfl) hRg hsm hrs FF NN fun I l1 => range_ind (fun i m news => m (Str.ofString "script") = some (.ref SC) ∧ m (Str.ofString "ways") = some (.ref D) ∧ m (Str.ofString "words") = some (.ref W) ∧ m (Str.ofString "tree") = some (.ref TR) ∧ ∃ (nv : List Value) (kn kt : Nat) (Ts : List Addr) (tl t : Led), news = (TR, listOf (Ts.map Value.ref).toArray kt) :: (NM, listOf nv.toArray kn) :: (L + 1, onm) :: (tl ++ t) ∧ TrSt w ws ow tl t NM TR nv Ts i ∧ ∀ q ∈ tl, q.1 ≠ I) ws.length ?_ ?_ ws.length 0 _ _ (Nat.zero_add _) ?_
  · have hIN : I ≠ NM := Nat.ne_of_gt (l1 _ (.tail _ (.head _)))
    have hIL : L + 1 ≠ I := Nat.ne_of_lt (l1 _ (.tail _ (.tail _ (.head _))))
    have hIT : I ≠ TR := Nat.ne_of_gt (l1 _ (.head _))
    clear FF NN hRg hTR hto hoff hnt l1
    intro i m news hi hJ t h tk F N
    obtain ⟨m1, m2, m3, m4, nv, kn, kt, Ts, tl, t2, rfl, st, hIl⟩ := hJ
    rw [show (0 : Int) + (i : Int) = i from Int.zero_add _] at F
    have ne : ∀ x : Str, x ≠ Str.ofString "k" → ∀ v, m x = some v → (if x = Str.ofString "k" then some (Value.int (i : Int) t) else m x) = some v := fun x h v e => (if_neg h).trans e
    obtain ⟨u9, F'⟩ := Fr.norm [(Str.ofString "script", .ref SC), (Str.ofString "ways", .ref D), (Str.ofString "words", .ref W), (Str.ofString "tree", .ref TR), (Str.ofString "k", .int (i : Int) t)] F (List.forall_mem_cons.mpr ⟨ne (Str.ofString "script") (by decide) _ m1, List.forall_mem_cons.mpr ⟨ne (Str.ofString "ways") (by decide) _ m2, List.forall_mem_cons.mpr ⟨ne (Str.ofString "words") (by decide) _ m3, List.forall_mem_cons.mpr ⟨ne (Str.ofString "tree") (by decide) _ m4, List.forall_mem_cons.mpr ⟨if_pos rfl, List.forall_mem_nil _⟩⟩⟩⟩⟩)
    clear F ne m1 m2 m3 m4
    dsimp only [kstB] at F'
    (try dsimp only); (try k_fold)
    obtain ⟨itI, hitI⟩ : ∃ itI, itI = itR ((0 : Int) + ((i + 1 : Nat) : Int)) ((ws.length : Int) - ((i + 1 : Nat) : Int)) := ⟨_, rfl⟩
    rw [← hitI] at N ⊢
    obtain ⟨tt, htt⟩ : ∃ tt, tt = tl ++ t2 := ⟨_, rfl⟩
    rw [← htt] at N
    have how : ∀ q ∈ ow, q ∈ tt := fun q hq => by rw [htt]; exact List.mem_append_left _ (st.sub q hq)
    (repeat' ((fail_if_success (with_reducible show wpAny _ _ (exec (Stmt.For _ _ _ _ _) _) _ _ _)); (fail_if_success (with_reducible show wpAny _ _ (pyIter _) _ _ _)); (fail_if_success (with_reducible show wpAny _ _ (subscriptTail (PySem.Expr.Name (Str.ofString "words") _) _ _ _) _ _ _)); (fail_if_success (with_reducible show wpAny _ _ (subscriptTail (PySem.Expr.Name (Str.ofString "ways") _) _ _ _) _ _ _)); (fail_if_success (with_reducible show wpAny _ _ (PySem.call (Value.ref 149) _) _ _ _)); (fail_if_success (with_reducible show wpAny _ _ (PySem.call (Value.ref 142) _) _ _ _)); (fail_if_success (with_reducible show wpAny _ _ (PySem.call (Value.ref 121) _) _ _ _)); (fail_if_success (with_reducible show wpAny _ _ (PySem.call (Value.ref 114) _) _ _ _)); (fail_if_success (with_reducible show wpAny _ _ (PySem.call (Value.ref 70) _) _ _ _)); (fail_if_success (with_reducible show wpAny _ _ (PySem.call (Value.builtin "list.append") _) _ _ _)); (fail_if_success (with_reducible show wpAny _ _ (compareOp CmpOp.NotEq (Value.ref _) (Value.ref _)) _ _ _)); (fail_if_success (with_reducible show wpAny _ _ (newList []) _ _ _)); (fail_if_success (with_reducible show UnrEnd _ _ _ _ _ _ _)); first | ((with_reducible show wpAny _ _ (subscriptTail (PySem.Expr.Subscript _ _ _) _ (Value.ref _) (Value.int _ _)) _ _ _); refine tup_at (by first | assumption | exact IsTup.keeps (by assumption) (Fr.keep (by assumption))) (by decide) (by decide) rfl ?_) | ((with_reducible show wpAny _ _ (subscriptTail (PySem.Expr.Name (Str.ofString "told") _) _ (Value.ref _) (Value.int _ _)) _ _ _); refine tup_at (News.isTup (by assumption) (by k_mem)) (by decide) (by decide) rfl ?_) | ((with_reducible show wpAny _ _ (callWith _ (Value.ref _) _ _ _) _ _ _); refine callWith_K (by k_asm) (by k_is) ?_; (try dsimp only [List.nil_append, List.cons_append])) | (k_unfold; (try dsimp only)) | walk1 | (dsimp only; walk1) | (leave1; try dsimp only)))
    rename Fr g L _ _ => FF
    rename News g L _ _ => NN
    refine name_item (n := ws.length + 1) (word := wordS ws) NN (.tail _ (.tail _ (.tail _ (.tail _ (how _ hW))))) hwv (by omega) (by omega) (by omega) fun t9 => ?_
    rw [show ((i : Int) + 1).toNat = i + 1 from rfl]
    (repeat' ((fail_if_success (with_reducible show wpAny _ _ (exec (Stmt.For _ _ _ _ _) _) _ _ _)); (fail_if_success (with_reducible show wpAny _ _ (pyIter _) _ _ _)); (fail_if_success (with_reducible show wpAny _ _ (subscriptTail (PySem.Expr.Name (Str.ofString "words") _) _ _ _) _ _ _)); (fail_if_success (with_reducible show wpAny _ _ (subscriptTail (PySem.Expr.Name (Str.ofString "ways") _) _ _ _) _ _ _)); (fail_if_success (with_reducible show wpAny _ _ (PySem.call (Value.ref 149) _) _ _ _)); (fail_if_success (with_reducible show wpAny _ _ (PySem.call (Value.ref 142) _) _ _ _)); (fail_if_success (with_reducible show wpAny _ _ (PySem.call (Value.ref 121) _) _ _ _)); (fail_if_success (with_reducible show wpAny _ _ (PySem.call (Value.ref 114) _) _ _ _)); (fail_if_success (with_reducible show wpAny _ _ (PySem.call (Value.ref 70) _) _ _ _)); (fail_if_success (with_reducible show wpAny _ _ (PySem.call (Value.builtin "list.append") _) _ _ _)); (fail_if_success (with_reducible show wpAny _ _ (compareOp CmpOp.NotEq (Value.ref _) (Value.ref _)) _ _ _)); (fail_if_success (with_reducible show wpAny _ _ (newList []) _ _ _)); (fail_if_success (with_reducible show UnrEnd _ _ _ _ _ _ _)); first | ((with_reducible show wpAny _ _ (subscriptTail (PySem.Expr.Subscript _ _ _) _ (Value.ref _) (Value.int _ _)) _ _ _); refine tup_at (by first | assumption | exact IsTup.keeps (by assumption) (Fr.keep (by assumption))) (by decide) (by decide) rfl ?_) | ((with_reducible show wpAny _ _ (subscriptTail (PySem.Expr.Name (Str.ofString "told") _) _ (Value.ref _) (Value.int _ _)) _ _ _); refine tup_at (News.isTup (by assumption) (by k_mem)) (by decide) (by decide) rfl ?_) | ((with_reducible show wpAny _ _ (callWith _ (Value.ref _) _ _ _) _ _ _); refine callWith_K (by k_asm) (by k_is) ?_; (try dsimp only [List.nil_append, List.cons_append])) | (k_unfold; (try dsimp only)) | walk1 | (dsimp only; walk1) | (leave1; try dsimp only)))
    rename Fr g L _ _ => FF
    rename News g L _ _ => NN
    have hw1 := wordS_len hgw (i := i + 1)
    have hok := wordS_ok hgw (i := i + 1) (by omega)
    refine Pure.call (reply_ok _ _) B' FF X' T' NN rfl (by show _ < _; decide) (by show _ < _; decide) (Nat.le_trans hw1 (by decide)) ?_
    rintro v h2 tk2 st2 ⟨t2', rfl⟩ F2 N2
    clear st2 FF NN
    (repeat' ((fail_if_success (with_reducible show wpAny _ _ (exec (Stmt.For _ _ _ _ _) _) _ _ _)); (fail_if_success (with_reducible show wpAny _ _ (pyIter _) _ _ _)); (fail_if_success (with_reducible show wpAny _ _ (subscriptTail (PySem.Expr.Name (Str.ofString "words") _) _ _ _) _ _ _)); (fail_if_success (with_reducible show wpAny _ _ (subscriptTail (PySem.Expr.Name (Str.ofString "ways") _) _ _ _) _ _ _)); (fail_if_success (with_reducible show wpAny _ _ (PySem.call (Value.ref 149) _) _ _ _)); (fail_if_success (with_reducible show wpAny _ _ (PySem.call (Value.ref 142) _) _ _ _)); (fail_if_success (with_reducible show wpAny _ _ (PySem.call (Value.ref 121) _) _ _ _)); (fail_if_success (with_reducible show wpAny _ _ (PySem.call (Value.ref 114) _) _ _ _)); (fail_if_success (with_reducible show wpAny _ _ (PySem.call (Value.ref 70) _) _ _ _)); (fail_if_success (with_reducible show wpAny _ _ (PySem.call (Value.builtin "list.append") _) _ _ _)); (fail_if_success (with_reducible show wpAny _ _ (compareOp CmpOp.NotEq (Value.ref _) (Value.ref _)) _ _ _)); (fail_if_success (with_reducible show wpAny _ _ (newList []) _ _ _)); (fail_if_success (with_reducible show UnrEnd _ _ _ _ _ _ _)); first | ((with_reducible show wpAny _ _ (subscriptTail (PySem.Expr.Subscript _ _ _) _ (Value.ref _) (Value.int _ _)) _ _ _); refine tup_at (by first | assumption | exact IsTup.keeps (by assumption) (Fr.keep (by assumption))) (by decide) (by decide) rfl ?_) | ((with_reducible show wpAny _ _ (subscriptTail (PySem.Expr.Name (Str.ofString "told") _) _ (Value.ref _) (Value.int _ _)) _ _ _); refine tup_at (News.isTup (by assumption) (by k_mem)) (by decide) (by decide) rfl ?_) | ((with_reducible show wpAny _ _ (callWith _ (Value.ref _) _ _ _) _ _ _); refine callWith_K (by k_asm) (by k_is) ?_; (try dsimp only [List.nil_append, List.cons_append])) | (k_unfold; (try dsimp only)) | walk1 | (dsimp only; walk1) | (leave1; try dsimp only)))
    rename Fr g L _ _ => FF
    rename News g L _ _ => NN
    refine Pure.call (p257r_ok _ _) B' FF X' T' NN rfl (by show _ < _; decide) (by show _ < _; decide) (Nat.le_trans hw1 (by decide)) ?_
    rintro v h3 tk3 st3 ⟨t3, rfl⟩ F3 N3
    clear st3 FF NN
    (repeat' ((fail_if_success (with_reducible show wpAny _ _ (exec (Stmt.For _ _ _ _ _) _) _ _ _)); (fail_if_success (with_reducible show wpAny _ _ (pyIter _) _ _ _)); (fail_if_success (with_reducible show wpAny _ _ (subscriptTail (PySem.Expr.Name (Str.ofString "words") _) _ _ _) _ _ _)); (fail_if_success (with_reducible show wpAny _ _ (subscriptTail (PySem.Expr.Name (Str.ofString "ways") _) _ _ _) _ _ _)); (fail_if_success (with_reducible show wpAny _ _ (PySem.call (Value.ref 149) _) _ _ _)); (fail_if_success (with_reducible show wpAny _ _ (PySem.call (Value.ref 142) _) _ _ _)); (fail_if_success (with_reducible show wpAny _ _ (PySem.call (Value.ref 121) _) _ _ _)); (fail_if_success (with_reducible show wpAny _ _ (PySem.call (Value.ref 114) _) _ _ _)); (fail_if_success (with_reducible show wpAny _ _ (PySem.call (Value.ref 70) _) _ _ _)); (fail_if_success (with_reducible show wpAny _ _ (PySem.call (Value.builtin "list.append") _) _ _ _)); (fail_if_success (with_reducible show wpAny _ _ (compareOp CmpOp.NotEq (Value.ref _) (Value.ref _)) _ _ _)); (fail_if_success (with_reducible show wpAny _ _ (newList []) _ _ _)); (fail_if_success (with_reducible show UnrEnd _ _ _ _ _ _ _)); first | ((with_reducible show wpAny _ _ (subscriptTail (PySem.Expr.Subscript _ _ _) _ (Value.ref _) (Value.int _ _)) _ _ _); refine tup_at (by first | assumption | exact IsTup.keeps (by assumption) (Fr.keep (by assumption))) (by decide) (by decide) rfl ?_) | ((with_reducible show wpAny _ _ (subscriptTail (PySem.Expr.Name (Str.ofString "told") _) _ (Value.ref _) (Value.int _ _)) _ _ _); refine tup_at (News.isTup (by assumption) (by k_mem)) (by decide) (by decide) rfl ?_) | ((with_reducible show wpAny _ _ (callWith _ (Value.ref _) _ _ _) _ _ _); refine callWith_K (by k_asm) (by k_is) ?_; (try dsimp only [List.nil_append, List.cons_append])) | (k_unfold; (try dsimp only)) | walk1 | (dsimp only; walk1) | (leave1; try dsimp only)))
    rename Fr g L _ _ => FF
    rename News g L _ _ => NN
    refine item_wayH (hway _ fun q hq => (NN q (.tail _ (.tail _ (.tail _ (.tail _ (how q hq)))))).1) (by omega) (by omega) (by omega) fun T u1 u2 u3 hT => ?_
    have hg0 := hgw.at' i hi
    rw [show ((i : Int)).toNat = i from rfl] at hT
    (repeat' ((fail_if_success (with_reducible show wpAny _ _ (exec (Stmt.For _ _ _ _ _) _) _ _ _)); (fail_if_success (with_reducible show wpAny _ _ (pyIter _) _ _ _)); (fail_if_success (with_reducible show wpAny _ _ (subscriptTail (PySem.Expr.Name (Str.ofString "words") _) _ _ _) _ _ _)); (fail_if_success (with_reducible show wpAny _ _ (subscriptTail (PySem.Expr.Name (Str.ofString "ways") _) _ _ _) _ _ _)); (fail_if_success (with_reducible show wpAny _ _ (PySem.call (Value.ref 149) _) _ _ _)); (fail_if_success (with_reducible show wpAny _ _ (PySem.call (Value.ref 142) _) _ _ _)); (fail_if_success (with_reducible show wpAny _ _ (PySem.call (Value.ref 121) _) _ _ _)); (fail_if_success (with_reducible show wpAny _ _ (PySem.call (Value.ref 114) _) _ _ _)); (fail_if_success (with_reducible show wpAny _ _ (PySem.call (Value.ref 70) _) _ _ _)); (fail_if_success (with_reducible show wpAny _ _ (PySem.call (Value.builtin "list.append") _) _ _ _)); (fail_if_success (with_reducible show wpAny _ _ (compareOp CmpOp.NotEq (Value.ref _) (Value.ref _)) _ _ _)); (fail_if_success (with_reducible show wpAny _ _ (newList []) _ _ _)); (fail_if_success (with_reducible show UnrEnd _ _ _ _ _ _ _)); first | ((with_reducible show wpAny _ _ (subscriptTail (PySem.Expr.Subscript _ _ _) _ (Value.ref _) (Value.int _ _)) _ _ _); refine tup_at (by first | assumption | exact IsTup.keeps (by assumption) (Fr.keep (by assumption))) (by decide) (by decide) rfl ?_) | ((with_reducible show wpAny _ _ (subscriptTail (PySem.Expr.Name (Str.ofString "told") _) _ (Value.ref _) (Value.int _ _)) _ _ _); refine tup_at (News.isTup (by assumption) (by k_mem)) (by decide) (by decide) rfl ?_) | ((with_reducible show wpAny _ _ (callWith _ (Value.ref _) _ _ _) _ _ _); refine callWith_K (by k_asm) (by k_is) ?_; (try dsimp only [List.nil_append, List.cons_append])) | (k_unfold; (try dsimp only)) | walk1 | (dsimp only; walk1) | (leave1; try dsimp only)))
    rename Fr g L _ _ => FF
    rename News g L _ _ => NN
    obtain ⟨wa, hwa⟩ : ∃ wa, wa = (ws.getD i (0, 0, 0)).1 := ⟨_, rfl⟩
    obtain ⟨wl, hwl⟩ : ∃ wl, wl = (ws.getD i (0, 0, 0)).2.1 := ⟨_, rfl⟩
    obtain ⟨wq, hwq⟩ : ∃ wq, wq = (ws.getD i (0, 0, 0)).2.2 := ⟨_, rfl⟩
    rw [← hwa, ← hwl, ← hwq] at hT hg0
    obtain ⟨a0, a1, l0, l1', q0, q1⟩ := hg0
    have a3 : wa ≤ 3 := by omega
    refine Pure.call (port_ok T _ _ _ _ _ _) B' FF X' T' NN rfl (by show _ < _; decide) (by show _ < _; decide) ⟨hT, a0, a3, l0, l1', q0, q1⟩ ?_
    rintro v h5 tk5 st5 ⟨t5, rfl⟩ F5 N5
    have hpg := port_good a0 a3 l0 l1' q0 q1
    clear st5 FF NN hT
    (repeat' ((fail_if_success (with_reducible show wpAny _ _ (exec (Stmt.For _ _ _ _ _) _) _ _ _)); (fail_if_success (with_reducible show wpAny _ _ (pyIter _) _ _ _)); (fail_if_success (with_reducible show wpAny _ _ (subscriptTail (PySem.Expr.Name (Str.ofString "words") _) _ _ _) _ _ _)); (fail_if_success (with_reducible show wpAny _ _ (subscriptTail (PySem.Expr.Name (Str.ofString "ways") _) _ _ _) _ _ _)); (fail_if_success (with_reducible show wpAny _ _ (PySem.call (Value.ref 149) _) _ _ _)); (fail_if_success (with_reducible show wpAny _ _ (PySem.call (Value.ref 142) _) _ _ _)); (fail_if_success (with_reducible show wpAny _ _ (PySem.call (Value.ref 121) _) _ _ _)); (fail_if_success (with_reducible show wpAny _ _ (PySem.call (Value.ref 114) _) _ _ _)); (fail_if_success (with_reducible show wpAny _ _ (PySem.call (Value.ref 70) _) _ _ _)); (fail_if_success (with_reducible show wpAny _ _ (PySem.call (Value.builtin "list.append") _) _ _ _)); (fail_if_success (with_reducible show wpAny _ _ (compareOp CmpOp.NotEq (Value.ref _) (Value.ref _)) _ _ _)); (fail_if_success (with_reducible show wpAny _ _ (newList []) _ _ _)); (fail_if_success (with_reducible show UnrEnd _ _ _ _ _ _ _)); first | ((with_reducible show wpAny _ _ (subscriptTail (PySem.Expr.Subscript _ _ _) _ (Value.ref _) (Value.int _ _)) _ _ _); refine tup_at (by first | assumption | exact IsTup.keeps (by assumption) (Fr.keep (by assumption))) (by decide) (by decide) rfl ?_) | ((with_reducible show wpAny _ _ (subscriptTail (PySem.Expr.Name (Str.ofString "told") _) _ (Value.ref _) (Value.int _ _)) _ _ _); refine tup_at (News.isTup (by assumption) (by k_mem)) (by decide) (by decide) rfl ?_) | ((with_reducible show wpAny _ _ (callWith _ (Value.ref _) _ _ _) _ _ _); refine callWith_K (by k_asm) (by k_is) ?_; (try dsimp only [List.nil_append, List.cons_append])) | (k_unfold; (try dsimp only)) | walk1 | (dsimp only; walk1) | (leave1; try dsimp only)))
    rename Fr g L _ _ => FF
    rename News g L _ _ => NN
    refine Pure.call (p229_ok _ _ _ t3 _ _ (10 * wa + wl)) B' FF X' T' NN rfl (by show _ < _; decide) (by show _ < _; decide) ⟨NN.isTup (.head _), hpg⟩ ?_
    rintro v h6 tk6 st6 ⟨R, o, rfl, hR0, hR1, t6, u6, rfl⟩ F6 N6
    have N7 := News.drop2 (News.addD FF N6 hR0 hR1)
    clear st6 FF NN N6 hR0 hR1 hpg
    (repeat' ((fail_if_success (with_reducible show wpAny _ _ (exec (Stmt.For _ _ _ _ _) _) _ _ _)); (fail_if_success (with_reducible show wpAny _ _ (pyIter _) _ _ _)); (fail_if_success (with_reducible show wpAny _ _ (subscriptTail (PySem.Expr.Name (Str.ofString "words") _) _ _ _) _ _ _)); (fail_if_success (with_reducible show wpAny _ _ (subscriptTail (PySem.Expr.Name (Str.ofString "ways") _) _ _ _) _ _ _)); (fail_if_success (with_reducible show wpAny _ _ (PySem.call (Value.ref 149) _) _ _ _)); (fail_if_success (with_reducible show wpAny _ _ (PySem.call (Value.ref 142) _) _ _ _)); (fail_if_success (with_reducible show wpAny _ _ (PySem.call (Value.ref 121) _) _ _ _)); (fail_if_success (with_reducible show wpAny _ _ (PySem.call (Value.ref 114) _) _ _ _)); (fail_if_success (with_reducible show wpAny _ _ (PySem.call (Value.ref 70) _) _ _ _)); (fail_if_success (with_reducible show wpAny _ _ (PySem.call (Value.builtin "list.append") _) _ _ _)); (fail_if_success (with_reducible show wpAny _ _ (compareOp CmpOp.NotEq (Value.ref _) (Value.ref _)) _ _ _)); (fail_if_success (with_reducible show wpAny _ _ (newList []) _ _ _)); (fail_if_success (with_reducible show UnrEnd _ _ _ _ _ _ _)); first | ((with_reducible show wpAny _ _ (subscriptTail (PySem.Expr.Subscript _ _ _) _ (Value.ref _) (Value.int _ _)) _ _ _); refine tup_at (by first | assumption | exact IsTup.keeps (by assumption) (Fr.keep (by assumption))) (by decide) (by decide) rfl ?_) | ((with_reducible show wpAny _ _ (subscriptTail (PySem.Expr.Name (Str.ofString "told") _) _ (Value.ref _) (Value.int _ _)) _ _ _); refine tup_at (News.isTup (by assumption) (by k_mem)) (by decide) (by decide) rfl ?_) | ((with_reducible show wpAny _ _ (callWith _ (Value.ref _) _ _ _) _ _ _); refine callWith_K (by k_asm) (by k_is) ?_; (try dsimp only [List.nil_append, List.cons_append])) | (k_unfold; (try dsimp only)) | walk1 | (dsimp only; walk1) | (leave1; try dsimp only)))
    rename Fr g L _ _ => FF
    rename News g L _ _ => NN
    refine name_item (n := ws.length + 1) (word := wordS ws) NN (.tail _ (.tail _ (.tail _ (.tail _ (.tail _ (how _ hW)))))) hwv (by omega) (by omega) (by omega) fun t9 => ?_
    rw [show ((i : Int) + 1).toNat = i + 1 from rfl]
    (repeat' ((fail_if_success (with_reducible show wpAny _ _ (exec (Stmt.For _ _ _ _ _) _) _ _ _)); (fail_if_success (with_reducible show wpAny _ _ (pyIter _) _ _ _)); (fail_if_success (with_reducible show wpAny _ _ (subscriptTail (PySem.Expr.Name (Str.ofString "words") _) _ _ _) _ _ _)); (fail_if_success (with_reducible show wpAny _ _ (subscriptTail (PySem.Expr.Name (Str.ofString "ways") _) _ _ _) _ _ _)); (fail_if_success (with_reducible show wpAny _ _ (PySem.call (Value.ref 149) _) _ _ _)); (fail_if_success (with_reducible show wpAny _ _ (PySem.call (Value.ref 142) _) _ _ _)); (fail_if_success (with_reducible show wpAny _ _ (PySem.call (Value.ref 121) _) _ _ _)); (fail_if_success (with_reducible show wpAny _ _ (PySem.call (Value.ref 114) _) _ _ _)); (fail_if_success (with_reducible show wpAny _ _ (PySem.call (Value.ref 70) _) _ _ _)); (fail_if_success (with_reducible show wpAny _ _ (PySem.call (Value.builtin "list.append") _) _ _ _)); (fail_if_success (with_reducible show wpAny _ _ (compareOp CmpOp.NotEq (Value.ref _) (Value.ref _)) _ _ _)); (fail_if_success (with_reducible show wpAny _ _ (newList []) _ _ _)); (fail_if_success (with_reducible show UnrEnd _ _ _ _ _ _ _)); first | ((with_reducible show wpAny _ _ (subscriptTail (PySem.Expr.Subscript _ _ _) _ (Value.ref _) (Value.int _ _)) _ _ _); refine tup_at (by first | assumption | exact IsTup.keeps (by assumption) (Fr.keep (by assumption))) (by decide) (by decide) rfl ?_) | ((with_reducible show wpAny _ _ (subscriptTail (PySem.Expr.Name (Str.ofString "told") _) _ (Value.ref _) (Value.int _ _)) _ _ _); refine tup_at (News.isTup (by assumption) (by k_mem)) (by decide) (by decide) rfl ?_) | ((with_reducible show wpAny _ _ (callWith _ (Value.ref _) _ _ _) _ _ _); refine callWith_K (by k_asm) (by k_is) ?_; (try dsimp only [List.nil_append, List.cons_append])) | (k_unfold; (try dsimp only)) | walk1 | (dsimp only; walk1) | (leave1; try dsimp only)))
    rename Fr g L _ _ => FF
    rename News g L _ _ => NN
    refine item_wayH (hway _ fun q hq => (NN q (.tail _ (.tail _ (.tail _ (.tail _ (.tail _ (how q hq))))))).1) (by omega) (by omega) (by omega) fun T u1 u2 u3 hT => ?_
    rw [show ((i : Int)).toNat = i from rfl, ← hwa, ← hwl, ← hwq] at hT
    (repeat' ((fail_if_success (with_reducible show wpAny _ _ (exec (Stmt.For _ _ _ _ _) _) _ _ _)); (fail_if_success (with_reducible show wpAny _ _ (pyIter _) _ _ _)); (fail_if_success (with_reducible show wpAny _ _ (subscriptTail (PySem.Expr.Name (Str.ofString "words") _) _ _ _) _ _ _)); (fail_if_success (with_reducible show wpAny _ _ (subscriptTail (PySem.Expr.Name (Str.ofString "ways") _) _ _ _) _ _ _)); (fail_if_success (with_reducible show wpAny _ _ (PySem.call (Value.ref 149) _) _ _ _)); (fail_if_success (with_reducible show wpAny _ _ (PySem.call (Value.ref 142) _) _ _ _)); (fail_if_success (with_reducible show wpAny _ _ (PySem.call (Value.ref 121) _) _ _ _)); (fail_if_success (with_reducible show wpAny _ _ (PySem.call (Value.ref 114) _) _ _ _)); (fail_if_success (with_reducible show wpAny _ _ (PySem.call (Value.ref 70) _) _ _ _)); (fail_if_success (with_reducible show wpAny _ _ (PySem.call (Value.builtin "list.append") _) _ _ _)); (fail_if_success (with_reducible show wpAny _ _ (compareOp CmpOp.NotEq (Value.ref _) (Value.ref _)) _ _ _)); (fail_if_success (with_reducible show wpAny _ _ (newList []) _ _ _)); (fail_if_success (with_reducible show UnrEnd _ _ _ _ _ _ _)); first | ((with_reducible show wpAny _ _ (subscriptTail (PySem.Expr.Subscript _ _ _) _ (Value.ref _) (Value.int _ _)) _ _ _); refine tup_at (by first | assumption | exact IsTup.keeps (by assumption) (Fr.keep (by assumption))) (by decide) (by decide) rfl ?_) | ((with_reducible show wpAny _ _ (subscriptTail (PySem.Expr.Name (Str.ofString "told") _) _ (Value.ref _) (Value.int _ _)) _ _ _); refine tup_at (News.isTup (by assumption) (by k_mem)) (by decide) (by decide) rfl ?_) | ((with_reducible show wpAny _ _ (callWith _ (Value.ref _) _ _ _) _ _ _); refine callWith_K (by k_asm) (by k_is) ?_; (try dsimp only [List.nil_append, List.cons_append])) | (k_unfold; (try dsimp only)) | walk1 | (dsimp only; walk1) | (leave1; try dsimp only)))
    rename Fr g L _ _ => FF
    rename News g L _ _ => NN
    refine item_wayH (hway _ fun q hq => (NN q (.tail _ (.tail _ (.tail _ (.tail _ (.tail _ (how q hq))))))).1) (by omega) (by omega) (by omega) fun T u1 u2 u3 hT => ?_
    rw [show ((i : Int)).toNat = i from rfl, ← hwa, ← hwl, ← hwq] at hT
    (repeat' ((fail_if_success (with_reducible show wpAny _ _ (exec (Stmt.For _ _ _ _ _) _) _ _ _)); (fail_if_success (with_reducible show wpAny _ _ (pyIter _) _ _ _)); (fail_if_success (with_reducible show wpAny _ _ (subscriptTail (PySem.Expr.Name (Str.ofString "words") _) _ _ _) _ _ _)); (fail_if_success (with_reducible show wpAny _ _ (subscriptTail (PySem.Expr.Name (Str.ofString "ways") _) _ _ _) _ _ _)); (fail_if_success (with_reducible show wpAny _ _ (PySem.call (Value.ref 149) _) _ _ _)); (fail_if_success (with_reducible show wpAny _ _ (PySem.call (Value.ref 142) _) _ _ _)); (fail_if_success (with_reducible show wpAny _ _ (PySem.call (Value.ref 121) _) _ _ _)); (fail_if_success (with_reducible show wpAny _ _ (PySem.call (Value.ref 114) _) _ _ _)); (fail_if_success (with_reducible show wpAny _ _ (PySem.call (Value.ref 70) _) _ _ _)); (fail_if_success (with_reducible show wpAny _ _ (PySem.call (Value.builtin "list.append") _) _ _ _)); (fail_if_success (with_reducible show wpAny _ _ (compareOp CmpOp.NotEq (Value.ref _) (Value.ref _)) _ _ _)); (fail_if_success (with_reducible show wpAny _ _ (newList []) _ _ _)); (fail_if_success (with_reducible show UnrEnd _ _ _ _ _ _ _)); first | ((with_reducible show wpAny _ _ (subscriptTail (PySem.Expr.Subscript _ _ _) _ (Value.ref _) (Value.int _ _)) _ _ _); refine tup_at (by first | assumption | exact IsTup.keeps (by assumption) (Fr.keep (by assumption))) (by decide) (by decide) rfl ?_) | ((with_reducible show wpAny _ _ (subscriptTail (PySem.Expr.Name (Str.ofString "told") _) _ (Value.ref _) (Value.int _ _)) _ _ _); refine tup_at (News.isTup (by assumption) (by k_mem)) (by decide) (by decide) rfl ?_) | ((with_reducible show wpAny _ _ (callWith _ (Value.ref _) _ _ _) _ _ _); refine callWith_K (by k_asm) (by k_is) ?_; (try dsimp only [List.nil_append, List.cons_append])) | (k_unfold; (try dsimp only)) | walk1 | (dsimp only; walk1) | (leave1; try dsimp only)))
    rename Fr g L _ _ => FF
    rename News g L _ _ => NN
    refine tup_ne_same NN (.tail _ (.head _)) (.head _) hok (by k_units) ?_
    have NX := News.drop1 NN
    clear NN
    (repeat' ((fail_if_success (with_reducible show wpAny _ _ (exec (Stmt.For _ _ _ _ _) _) _ _ _)); (fail_if_success (with_reducible show wpAny _ _ (pyIter _) _ _ _)); (fail_if_success (with_reducible show wpAny _ _ (subscriptTail (PySem.Expr.Name (Str.ofString "words") _) _ _ _) _ _ _)); (fail_if_success (with_reducible show wpAny _ _ (subscriptTail (PySem.Expr.Name (Str.ofString "ways") _) _ _ _) _ _ _)); (fail_if_success (with_reducible show wpAny _ _ (PySem.call (Value.ref 149) _) _ _ _)); (fail_if_success (with_reducible show wpAny _ _ (PySem.call (Value.ref 142) _) _ _ _)); (fail_if_success (with_reducible show wpAny _ _ (PySem.call (Value.ref 121) _) _ _ _)); (fail_if_success (with_reducible show wpAny _ _ (PySem.call (Value.ref 114) _) _ _ _)); (fail_if_success (with_reducible show wpAny _ _ (PySem.call (Value.ref 70) _) _ _ _)); (fail_if_success (with_reducible show wpAny _ _ (PySem.call (Value.builtin "list.append") _) _ _ _)); (fail_if_success (with_reducible show wpAny _ _ (compareOp CmpOp.NotEq (Value.ref _) (Value.ref _)) _ _ _)); (fail_if_success (with_reducible show wpAny _ _ (newList []) _ _ _)); (fail_if_success (with_reducible show UnrEnd _ _ _ _ _ _ _)); first | ((with_reducible show wpAny _ _ (subscriptTail (PySem.Expr.Subscript _ _ _) _ (Value.ref _) (Value.int _ _)) _ _ _); refine tup_at (by first | assumption | exact IsTup.keeps (by assumption) (Fr.keep (by assumption))) (by decide) (by decide) rfl ?_) | ((with_reducible show wpAny _ _ (subscriptTail (PySem.Expr.Name (Str.ofString "told") _) _ (Value.ref _) (Value.int _ _)) _ _ _); refine tup_at (News.isTup (by assumption) (by k_mem)) (by decide) (by decide) rfl ?_) | ((with_reducible show wpAny _ _ (callWith _ (Value.ref _) _ _ _) _ _ _); refine callWith_K (by k_asm) (by k_is) ?_; (try dsimp only [List.nil_append, List.cons_append])) | (k_unfold; (try dsimp only)) | walk1 | (dsimp only; walk1) | (leave1; try dsimp only)))
    rename Fr g L _ _ => FF
    rename News g L _ _ => NN
    have hms : ∀ q ∈ t2, q ∈ tt := fun q hq => by rw [htt]; exact List.mem_append_right _ hq
    refine PureE.call (idm2U_ok _ _ _ _ t2 st.tab) ((R, { cls := .type "tuple", data := .seq #[.str (wordS ws (i + 1)) t6, .int (10 * wa + wl) u6] }) :: (I, itI) :: (TR, listOf (Ts.map Value.ref).toArray kt) :: (NM, listOf nv.toArray kn) :: (L + 1, onm) :: tl) B' FF X' T' NN rfl (by show _ < _; decide) (by show _ < _; decide) ?_ ?_ ⟨by omega, by omega, by decide, by decide⟩ ?_
    · exact fun q hq => .tail _ (.tail _ (.tail _ (.tail _ (.tail _ (hms q hq)))))
    · have hms' := fun q (hq : q ∈ t2) => (NN q (.tail _ (.tail _ (.tail _ (.tail _ (.tail _ (hms q hq)))))))
      have NT : News g L _ t2 := hms'
      refine List.forall_mem_cons.mpr ⟨⟨.head _, notin_of fun q hq => News.ne2 NT NN hq (.head _) fun e => ?_⟩, List.forall_mem_cons.mpr ⟨⟨.tail _ (.head _), notin_of fun q hq => News.ne2 NT NN hq (.tail _ (.head _)) fun e => st.tab.ne_it _ _ q hq (e.trans hitI)⟩, List.forall_mem_cons.mpr ⟨⟨.tail _ (.tail _ (.head _)), notin_of fun q hq => (st.oN q (List.mem_append_right _ hq)).2⟩, List.forall_mem_cons.mpr ⟨⟨.tail _ (.tail _ (.tail _ (.head _))), notin_of fun q hq => (st.oN q (List.mem_append_right _ hq)).1⟩, List.forall_mem_cons.mpr ⟨⟨.tail _ (.tail _ (.tail _ (.tail _ (.head _)))), notin_of fun q hq => News.ne2 NT NN hq (.tail _ (.tail _ (.tail _ (.tail _ (.head _))))) fun e => ?_⟩, fun q hq => ⟨.tail _ (.tail _ (.tail _ (.tail _ (.tail _ (by rw [htt]; exact List.mem_append_left _ hq))))), st.nn q hq⟩⟩⟩⟩⟩⟩
      · obtain ⟨vs, hv⟩ := st.tab.like q hq
        rw [e] at hv; cases hv
      · obtain ⟨vs, hv⟩ := st.tab.like q hq
        rw [e] at hv
        rw [show (L + 1, onm).2.data = _ from hnm] at hv; cases hv
    rintro v h7 tk7 t7 st7 ⟨hto7, hft7⟩ ⟨Q1, oQ, rfl, hQ0, hQ1, q1t, q2t, rfl⟩ F7 N7
    rw [fdiv_ten (by omega) (by omega), fmod_ten (by omega) (by omega)] at hQ1
    have N8 := News.addD FF N7 hQ0 hQ1
    simp only [List.cons_append] at N8
    have hN0 := (NN _ (.tail _ (.tail _ (.tail _ (.head _))))).1
    have hT0 := (NN _ (.tail _ (.tail _ (.head _)))).1
    have hl0 := fun q (hq : q ∈ tl) => @Exists.intro _ (fun o => Heap.get? _ q.1 = some o) q.2 (NN q (.tail _ (.tail _ (.tail _ (.tail _ (.tail _ (by rw [htt]; exact List.mem_append_left _ hq))))))).1
    have hoN7 := st.oN' hto7 hN0 hT0
    obtain ⟨tt7, htt7⟩ : ∃ tt7, tt7 = tl ++ t7 := ⟨_, rfl⟩
    rw [← htt7] at N8
    have hoN8 : ∀ q ∈ tt7, q.1 ≠ NM ∧ q.1 ≠ TR := by rw [htt7]; exact hoN7
    have how7 : ∀ q ∈ ow, q ∈ tt7 := fun q hq => by rw [htt7]; exact List.mem_append_left _ (st.sub q hq)
    clear N7 hQ0 hQ1 FF NN
    clear htt hms how
    (repeat' ((fail_if_success (with_reducible show wpAny _ _ (exec (Stmt.For _ _ _ _ _) _) _ _ _)); (fail_if_success (with_reducible show wpAny _ _ (pyIter _) _ _ _)); (fail_if_success (with_reducible show wpAny _ _ (subscriptTail (PySem.Expr.Name (Str.ofString "words") _) _ _ _) _ _ _)); (fail_if_success (with_reducible show wpAny _ _ (subscriptTail (PySem.Expr.Name (Str.ofString "ways") _) _ _ _) _ _ _)); (fail_if_success (with_reducible show wpAny _ _ (PySem.call (Value.ref 149) _) _ _ _)); (fail_if_success (with_reducible show wpAny _ _ (PySem.call (Value.ref 142) _) _ _ _)); (fail_if_success (with_reducible show wpAny _ _ (PySem.call (Value.ref 121) _) _ _ _)); (fail_if_success (with_reducible show wpAny _ _ (PySem.call (Value.ref 114) _) _ _ _)); (fail_if_success (with_reducible show wpAny _ _ (PySem.call (Value.ref 70) _) _ _ _)); (fail_if_success (with_reducible show wpAny _ _ (PySem.call (Value.builtin "list.append") _) _ _ _)); (fail_if_success (with_reducible show wpAny _ _ (compareOp CmpOp.NotEq (Value.ref _) (Value.ref _)) _ _ _)); (fail_if_success (with_reducible show wpAny _ _ (newList []) _ _ _)); (fail_if_success (with_reducible show UnrEnd _ _ _ _ _ _ _)); first | ((with_reducible show wpAny _ _ (subscriptTail (PySem.Expr.Subscript _ _ _) _ (Value.ref _) (Value.int _ _)) _ _ _); refine tup_at (by first | assumption | exact IsTup.keeps (by assumption) (Fr.keep (by assumption))) (by decide) (by decide) rfl ?_) | ((with_reducible show wpAny _ _ (subscriptTail (PySem.Expr.Name (Str.ofString "told") _) _ (Value.ref _) (Value.int _ _)) _ _ _); refine tup_at (News.isTup (by assumption) (by k_mem)) (by decide) (by decide) rfl ?_) | ((with_reducible show wpAny _ _ (callWith _ (Value.ref _) _ _ _) _ _ _); refine callWith_K (by k_asm) (by k_is) ?_; (try dsimp only [List.nil_append, List.cons_append])) | (k_unfold; (try dsimp only)) | walk1 | (dsimp only; walk1) | (leave1; try dsimp only)))
    rename Fr g L _ _ => FF
    rename News g L _ _ => NN
    refine item_wayH (hway _ fun q hq => (NN q (.tail _ (.tail _ (.tail _ (.tail _ (.tail _ (.tail _ (.tail _ (how7 q hq))))))))).1) (by omega) (by omega) (by omega) fun T u1 u2 u3 hT => ?_
    rw [show ((i : Int)).toNat = i from rfl, ← hwa, ← hwl, ← hwq] at hT
    (repeat' ((fail_if_success (with_reducible show wpAny _ _ (exec (Stmt.For _ _ _ _ _) _) _ _ _)); (fail_if_success (with_reducible show wpAny _ _ (pyIter _) _ _ _)); (fail_if_success (with_reducible show wpAny _ _ (subscriptTail (PySem.Expr.Name (Str.ofString "words") _) _ _ _) _ _ _)); (fail_if_success (with_reducible show wpAny _ _ (subscriptTail (PySem.Expr.Name (Str.ofString "ways") _) _ _ _) _ _ _)); (fail_if_success (with_reducible show wpAny _ _ (PySem.call (Value.ref 149) _) _ _ _)); (fail_if_success (with_reducible show wpAny _ _ (PySem.call (Value.ref 142) _) _ _ _)); (fail_if_success (with_reducible show wpAny _ _ (PySem.call (Value.ref 121) _) _ _ _)); (fail_if_success (with_reducible show wpAny _ _ (PySem.call (Value.ref 114) _) _ _ _)); (fail_if_success (with_reducible show wpAny _ _ (PySem.call (Value.ref 70) _) _ _ _)); (fail_if_success (with_reducible show wpAny _ _ (PySem.call (Value.builtin "list.append") _) _ _ _)); (fail_if_success (with_reducible show wpAny _ _ (compareOp CmpOp.NotEq (Value.ref _) (Value.ref _)) _ _ _)); (fail_if_success (with_reducible show wpAny _ _ (newList []) _ _ _)); (fail_if_success (with_reducible show UnrEnd _ _ _ _ _ _ _)); first | ((with_reducible show wpAny _ _ (subscriptTail (PySem.Expr.Subscript _ _ _) _ (Value.ref _) (Value.int _ _)) _ _ _); refine tup_at (by first | assumption | exact IsTup.keeps (by assumption) (Fr.keep (by assumption))) (by decide) (by decide) rfl ?_) | ((with_reducible show wpAny _ _ (subscriptTail (PySem.Expr.Name (Str.ofString "told") _) _ (Value.ref _) (Value.int _ _)) _ _ _); refine tup_at (News.isTup (by assumption) (by k_mem)) (by decide) (by decide) rfl ?_) | ((with_reducible show wpAny _ _ (callWith _ (Value.ref _) _ _ _) _ _ _); refine callWith_K (by k_asm) (by k_is) ?_; (try dsimp only [List.nil_append, List.cons_append])) | (k_unfold; (try dsimp only)) | walk1 | (dsimp only; walk1) | (leave1; try dsimp only)))
    rename Fr g L _ _ => FF
    rename News g L _ _ => NN
    refine item_wayH (hway _ fun q hq => (NN q (.tail _ (.tail _ (.tail _ (.tail _ (.tail _ (.tail _ (.tail _ (how7 q hq))))))))).1) (by omega) (by omega) (by omega) fun T u1 u2 u3 hT => ?_
    rw [show ((i : Int)).toNat = i from rfl, ← hwa, ← hwl, ← hwq] at hT
    (repeat' ((fail_if_success (with_reducible show wpAny _ _ (exec (Stmt.For _ _ _ _ _) _) _ _ _)); (fail_if_success (with_reducible show wpAny _ _ (pyIter _) _ _ _)); (fail_if_success (with_reducible show wpAny _ _ (subscriptTail (PySem.Expr.Name (Str.ofString "words") _) _ _ _) _ _ _)); (fail_if_success (with_reducible show wpAny _ _ (subscriptTail (PySem.Expr.Name (Str.ofString "ways") _) _ _ _) _ _ _)); (fail_if_success (with_reducible show wpAny _ _ (PySem.call (Value.ref 149) _) _ _ _)); (fail_if_success (with_reducible show wpAny _ _ (PySem.call (Value.ref 142) _) _ _ _)); (fail_if_success (with_reducible show wpAny _ _ (PySem.call (Value.ref 121) _) _ _ _)); (fail_if_success (with_reducible show wpAny _ _ (PySem.call (Value.ref 114) _) _ _ _)); (fail_if_success (with_reducible show wpAny _ _ (PySem.call (Value.ref 70) _) _ _ _)); (fail_if_success (with_reducible show wpAny _ _ (PySem.call (Value.builtin "list.append") _) _ _ _)); (fail_if_success (with_reducible show wpAny _ _ (compareOp CmpOp.NotEq (Value.ref _) (Value.ref _)) _ _ _)); (fail_if_success (with_reducible show wpAny _ _ (newList []) _ _ _)); (fail_if_success (with_reducible show UnrEnd _ _ _ _ _ _ _)); first | ((with_reducible show wpAny _ _ (subscriptTail (PySem.Expr.Subscript _ _ _) _ (Value.ref _) (Value.int _ _)) _ _ _); refine tup_at (by first | assumption | exact IsTup.keeps (by assumption) (Fr.keep (by assumption))) (by decide) (by decide) rfl ?_) | ((with_reducible show wpAny _ _ (subscriptTail (PySem.Expr.Name (Str.ofString "told") _) _ (Value.ref _) (Value.int _ _)) _ _ _); refine tup_at (News.isTup (by assumption) (by k_mem)) (by decide) (by decide) rfl ?_) | ((with_reducible show wpAny _ _ (callWith _ (Value.ref _) _ _ _) _ _ _); refine callWith_K (by k_asm) (by k_is) ?_; (try dsimp only [List.nil_append, List.cons_append])) | (k_unfold; (try dsimp only)) | walk1 | (dsimp only; walk1) | (leave1; try dsimp only)))
    rename Fr g L _ _ => FF
    rename News g L _ _ => NN
    refine tup_ne_ints NN (.tail _ (.head _)) (.head _) (by k_units) ?_
    have NX : News g L _ ((R, { cls := .type "tuple", data := .seq #[.str (wordS ws (i + 1)) t6, .int (10 * wa + wl) u6] }) :: (I, itI) :: (TR, listOf (Ts.map Value.ref).toArray kt) :: (NM, listOf nv.toArray kn) :: (L + 1, onm) :: tt7) := fun q hq => NN q (.tail _ (.tail _ (.tail _ hq)))
    clear NN
    (repeat' ((fail_if_success (with_reducible show wpAny _ _ (exec (Stmt.For _ _ _ _ _) _) _ _ _)); (fail_if_success (with_reducible show wpAny _ _ (pyIter _) _ _ _)); (fail_if_success (with_reducible show wpAny _ _ (subscriptTail (PySem.Expr.Name (Str.ofString "words") _) _ _ _) _ _ _)); (fail_if_success (with_reducible show wpAny _ _ (subscriptTail (PySem.Expr.Name (Str.ofString "ways") _) _ _ _) _ _ _)); (fail_if_success (with_reducible show wpAny _ _ (PySem.call (Value.ref 149) _) _ _ _)); (fail_if_success (with_reducible show wpAny _ _ (PySem.call (Value.ref 142) _) _ _ _)); (fail_if_success (with_reducible show wpAny _ _ (PySem.call (Value.ref 121) _) _ _ _)); (fail_if_success (with_reducible show wpAny _ _ (PySem.call (Value.ref 114) _) _ _ _)); (fail_if_success (with_reducible show wpAny _ _ (PySem.call (Value.ref 70) _) _ _ _)); (fail_if_success (with_reducible show wpAny _ _ (PySem.call (Value.builtin "list.append") _) _ _ _)); (fail_if_success (with_reducible show wpAny _ _ (compareOp CmpOp.NotEq (Value.ref _) (Value.ref _)) _ _ _)); (fail_if_success (with_reducible show wpAny _ _ (newList []) _ _ _)); (fail_if_success (with_reducible show UnrEnd _ _ _ _ _ _ _)); first | ((with_reducible show wpAny _ _ (subscriptTail (PySem.Expr.Subscript _ _ _) _ (Value.ref _) (Value.int _ _)) _ _ _); refine tup_at (by first | assumption | exact IsTup.keeps (by assumption) (Fr.keep (by assumption))) (by decide) (by decide) rfl ?_) | ((with_reducible show wpAny _ _ (subscriptTail (PySem.Expr.Name (Str.ofString "told") _) _ (Value.ref _) (Value.int _ _)) _ _ _); refine tup_at (News.isTup (by assumption) (by k_mem)) (by decide) (by decide) rfl ?_) | ((with_reducible show wpAny _ _ (callWith _ (Value.ref _) _ _ _) _ _ _); refine callWith_K (by k_asm) (by k_is) ?_; (try dsimp only [List.nil_append, List.cons_append])) | (k_unfold; (try dsimp only)) | walk1 | (dsimp only; walk1) | (leave1; try dsimp only)))
    rename Fr g L _ _ => FF
    rename News g L _ _ => NN
    have NX := News.drop1 NN
    clear NN
    refine append_K FF NX (Upd.tail hIN (Upd.tail (Ne.symm hTN) (Upd.head (List.forall_mem_cons.mpr ⟨Ne.symm hNM, fun q hq => (hoN8 q hq).1⟩)))) (fun h8 F8 N8 => ?_) (by rw [List.size_toArray, st.lenN, PySem.sizeLine_eq]; omega)
    rw [List.push_toArray] at N8
    clear FF NX
    (repeat' ((fail_if_success (with_reducible show wpAny _ _ (exec (Stmt.For _ _ _ _ _) _) _ _ _)); (fail_if_success (with_reducible show wpAny _ _ (pyIter _) _ _ _)); (fail_if_success (with_reducible show wpAny _ _ (subscriptTail (PySem.Expr.Name (Str.ofString "words") _) _ _ _) _ _ _)); (fail_if_success (with_reducible show wpAny _ _ (subscriptTail (PySem.Expr.Name (Str.ofString "ways") _) _ _ _) _ _ _)); (fail_if_success (with_reducible show wpAny _ _ (PySem.call (Value.ref 149) _) _ _ _)); (fail_if_success (with_reducible show wpAny _ _ (PySem.call (Value.ref 142) _) _ _ _)); (fail_if_success (with_reducible show wpAny _ _ (PySem.call (Value.ref 121) _) _ _ _)); (fail_if_success (with_reducible show wpAny _ _ (PySem.call (Value.ref 114) _) _ _ _)); (fail_if_success (with_reducible show wpAny _ _ (PySem.call (Value.ref 70) _) _ _ _)); (fail_if_success (with_reducible show wpAny _ _ (PySem.call (Value.builtin "list.append") _) _ _ _)); (fail_if_success (with_reducible show wpAny _ _ (compareOp CmpOp.NotEq (Value.ref _) (Value.ref _)) _ _ _)); (fail_if_success (with_reducible show wpAny _ _ (newList []) _ _ _)); (fail_if_success (with_reducible show UnrEnd _ _ _ _ _ _ _)); first | ((with_reducible show wpAny _ _ (subscriptTail (PySem.Expr.Subscript _ _ _) _ (Value.ref _) (Value.int _ _)) _ _ _); refine tup_at (by first | assumption | exact IsTup.keeps (by assumption) (Fr.keep (by assumption))) (by decide) (by decide) rfl ?_) | ((with_reducible show wpAny _ _ (subscriptTail (PySem.Expr.Name (Str.ofString "told") _) _ (Value.ref _) (Value.int _ _)) _ _ _); refine tup_at (News.isTup (by assumption) (by k_mem)) (by decide) (by decide) rfl ?_) | ((with_reducible show wpAny _ _ (callWith _ (Value.ref _) _ _ _) _ _ _); refine callWith_K (by k_asm) (by k_is) ?_; (try dsimp only [List.nil_append, List.cons_append])) | (k_unfold; (try dsimp only)) | walk1 | (dsimp only; walk1) | (leave1; try dsimp only)))
    rename Fr g L _ _ => FF
    rename News g L _ _ => NN
    rename (I < _ ∧ TR < _ ∧ NM < _ ∧ L + 1 < _ ∧ AllLt _ tt7) => hl9
    refine append_K FF NN (Upd.tail (Nat.ne_of_gt hl9.2.1) (Upd.tail hIT (Upd.head (List.forall_mem_cons.mpr ⟨hTN, List.forall_mem_cons.mpr ⟨hTL, fun q hq => (hoN8 q hq).2⟩⟩)))) (fun h9 F9 N9 => ?_) (by rw [List.size_toArray, List.length_map, st.lenT, PySem.sizeLine_eq]; omega)
    rw [List.push_toArray, refs_snoc] at N9
    clear FF NN
    (repeat' ((fail_if_success (with_reducible show wpAny _ _ (exec (Stmt.For _ _ _ _ _) _) _ _ _)); (fail_if_success (with_reducible show wpAny _ _ (pyIter _) _ _ _)); (fail_if_success (with_reducible show wpAny _ _ (subscriptTail (PySem.Expr.Name (Str.ofString "words") _) _ _ _) _ _ _)); (fail_if_success (with_reducible show wpAny _ _ (subscriptTail (PySem.Expr.Name (Str.ofString "ways") _) _ _ _) _ _ _)); (fail_if_success (with_reducible show wpAny _ _ (PySem.call (Value.ref 149) _) _ _ _)); (fail_if_success (with_reducible show wpAny _ _ (PySem.call (Value.ref 142) _) _ _ _)); (fail_if_success (with_reducible show wpAny _ _ (PySem.call (Value.ref 121) _) _ _ _)); (fail_if_success (with_reducible show wpAny _ _ (PySem.call (Value.ref 114) _) _ _ _)); (fail_if_success (with_reducible show wpAny _ _ (PySem.call (Value.ref 70) _) _ _ _)); (fail_if_success (with_reducible show wpAny _ _ (PySem.call (Value.builtin "list.append") _) _ _ _)); (fail_if_success (with_reducible show wpAny _ _ (compareOp CmpOp.NotEq (Value.ref _) (Value.ref _)) _ _ _)); (fail_if_success (with_reducible show wpAny _ _ (newList []) _ _ _)); (fail_if_success (with_reducible show UnrEnd _ _ _ _ _ _ _)); first | ((with_reducible show wpAny _ _ (subscriptTail (PySem.Expr.Subscript _ _ _) _ (Value.ref _) (Value.int _ _)) _ _ _); refine tup_at (by first | assumption | exact IsTup.keeps (by assumption) (Fr.keep (by assumption))) (by decide) (by decide) rfl ?_) | ((with_reducible show wpAny _ _ (subscriptTail (PySem.Expr.Name (Str.ofString "told") _) _ (Value.ref _) (Value.int _ _)) _ _ _); refine tup_at (News.isTup (by assumption) (by k_mem)) (by decide) (by decide) rfl ?_) | ((with_reducible show wpAny _ _ (callWith _ (Value.ref _) _ _ _) _ _ _); refine callWith_K (by k_asm) (by k_is) ?_; (try dsimp only [List.nil_append, List.cons_append])) | (k_unfold; (try dsimp only)) | walk1 | (dsimp only; walk1) | (leave1; try dsimp only)))
    rename Fr g L _ _ => FF
    rename News g L _ _ => NN
    rw [show (-1 - (-1 - wa) : Int) = wa by omega, show (10 - (10 - wl) : Int) = wl by omega] at NN
    refine gen_tup NN fun v1 v2 NN => ?_
    have htn := TrSt.next (u1 := v1) (u2 := v2) (u3 := t6) st hto7 hft7 hoN7 hl0 (Nat.ne_of_gt hl9.2.2.1) (Nat.ne_of_gt hl9.2.1) (fun q hq => allLt_ne hl9.2.2.2.2 q (by rw [htt7]; exact List.mem_append_right _ hq)) hwa.symm hwl.symm
    refine' UnrEnd.intro FF NN _ ?sub ?off ⟨?m1, ?m2, ?m3, ?m4, _, kn + 1, kt + 1, _, _, _, rfl, htn, ?oi⟩
    case sub => exact List.forall_mem_cons.mpr ⟨.tail _ (.head _), List.forall_mem_cons.mpr ⟨.tail _ (.tail _ (.head _)), List.forall_mem_cons.mpr ⟨.tail _ (.tail _ (.tail _ (.head _))), List.forall_mem_cons.mpr ⟨.tail _ (.tail _ (.tail _ (.tail _ (.head _)))), List.forall_mem_cons.mpr ⟨.head _, fun p hp => .tail _ (.tail _ (.tail _ (.tail _ (.tail _ (by rw [htt7]; exact hp)))))⟩⟩⟩⟩⟩
    case off =>
      refine List.forall_mem_cons.mpr ⟨Ne.symm hIT, List.forall_mem_cons.mpr ⟨Ne.symm hIN, List.forall_mem_cons.mpr ⟨hIL, List.forall_mem_cons.mpr ⟨Nat.ne_of_gt hl9.1, fun p hp => ?_⟩⟩⟩⟩
      rcases List.mem_append.mp hp with hp | hp
      · exact hIl p hp
      · exact News.ne2 (p := p) (q := (I, itI)) NN NN (.tail _ (.tail _ (.tail _ (.tail _ (.tail _ (by rw [htt7]; exact List.mem_append_right _ hp)))))) (.tail _ (.head _)) (fun e => hft7.on.ne_it _ _ p hp (e.trans hitI))
    case m1 => rfl
    case m2 => rfl
    case m3 => rfl
    case m4 => rfl
    case oi => exact List.forall_mem_cons.mpr ⟨Nat.ne_of_gt hl9.1, hIl⟩
  · clear FF NN hRg hTR hto hoff hnt l1
    intro m news hJ h tk F N
    obtain ⟨m1, m2, m3, m4, nv, kn, kt, Ts, tl, t2, rfl, st, _⟩ := hJ
    obtain ⟨u9, F'⟩ := Fr.norm [(Str.ofString "script", .ref SC), (Str.ofString "ways", .ref D), (Str.ofString "words", .ref W), (Str.ofString "tree", .ref TR)] F (List.forall_mem_cons.mpr ⟨m1, List.forall_mem_cons.mpr ⟨m2, List.forall_mem_cons.mpr ⟨m3, List.forall_mem_cons.mpr ⟨m4, List.forall_mem_nil _⟩⟩⟩⟩)
    exact hnext _ _ _ _ _ _ _ _ _ _ F' N st hTN hTL
  · refine ⟨rfl, rfl, rfl, rfl, [.str (wordS ws 0) t0], kN, 0, [], ow, t, rfl, ⟨hto, fun q hq => hq, hnt, hTR, rfl, fun j hj => ?_, rfl, fun h _ j hj => absurd hj (Nat.not_lt_zero _), fun h => absurd h (Nat.lt_irrefl _)⟩, fun q hq => Nat.ne_of_lt (l1 q (.tail _ (.tail _ (.tail _ (List.mem_append_left _ hq)))))⟩
    obtain rfl : j = 0 := by omega
    exact ⟨t0, rfl⟩
end Mine

-- L1A
open PySem PySem.W PyProof.Rows PyProof
set_option Elab.async false
set_option maxRecDepth 100000
set_option maxHeartbeats 8000000
set_option pp.deepTerms false
set_option pp.deepTerms.threshold 6
set_option rowWalk.seconds 0
namespace Mine
theorem off1_ne {D : Addr} : ∀ {l : Led}, LCg.Off1 D l → ∀ q ∈ l, q.1 ≠ D
  | [], _, _, h => nomatch h
  | p :: r, x, q, hq => by
    rcases List.mem_cons.mp hq with rfl | hq
    · exact x.1
    · exact off1_ne x.2 q hq
theorem gen_list {g h : Heap} {L D : Addr} {u : List Value} {k : Nat} {ns : List Int} {r : Led} {P : Prop} (N : News g L h ((D, listOf u.toArray k) :: r)) (I : IntsAre u ns) (c : ∀ v, News g L h ((D, listOf v.toArray k) :: r) → IntsAre v ns → P) : P := c u N I
theorem flat_rep {α : Type} {a : α} (n : Nat) : (List.replicate n [a]).flatten = List.replicate n a := by
  induction n with
  | zero => rfl
  | succ n ih => rw [List.replicate_succ, List.flatten_cons, ih]; rfl
theorem range_zero (n : Nat) : (List.range n).map (fun _ => (0 : Int)) = List.replicate n 0 := by
  rw [List.map_const', List.length_range]

theorem law1_tab {w : World} {p : Program} {loose : List Str} {mean : ExcName → Option Value} {mg mb : Str → Option Value} {a : Addr} {g : Heap} {L : Addr} {s : Shared} {Q : Flow → Shared → Prop} {E : Value → Shared → Prop} {m₀ : Str → Option Value} {SC TR NM : Addr} {kN : Nat} {nv : List Value} {onm : Obj} {own : Led}
    (B' : Below callerA g [] g) (F' : Fr g L s.heap (kstB m₀ [(Str.ofString "script", .ref SC), (Str.ofString "tree", .ref TR)])) (X' : (hd1.heap_1 w.params).In g) (T' : Top p loose mean mg mb g)
    (N' : News g L s.heap ((NM, listOf nv.toArray kN) :: (L + 1, onm) :: own)) (hnm : onm.data = .cell (some (.ref NM))) (hn : nv.length ≤ 5)
    (hE : PassesOwn (model PySem.Challenge.rw_rs0157_01.prog w) (callerA.deeper (lawEnv w.params L a (.ref 174))) (lawEnv w.params L a (.ref 174)) E)
    (hnext : ∀ h' tk' u TB kT Rs ks us, Fr g L h' (kstB u [(Str.ofString "table", .ref TB), (Str.ofString "tree", .ref TR), (Str.ofString "script", .ref SC)]) → News g L h' ((TB, listOf (Rs.map Value.ref).toArray kT) :: (L + 1, onm) :: (NM, listOf nv.toArray kN) :: (rowsLed Rs ks us ++ own)) → TabOk us (fun _ _ => 0) nv.length → Rs.length = nv.length → ks.length = nv.length → Rs.Nodup → (∀ q ∈ (TB, listOf (Rs.map Value.ref).toArray kT) :: (L + 1, onm) :: (NM, listOf nv.toArray kN) :: own, q.1 ∉ Rs) → (∀ q ∈ own, q.1 ≠ TB) →
      wpAny (model PySem.Challenge.rw_rs0157_01.prog w) (callerA.deeper (lawEnv w.params L a (.ref 174))) (execs ((lawBody w.params).drop 8) (lawEnv w.params L a (.ref 174))) Q E { s with heap := h', toks := tk' }) :
    wpAny (model PySem.Challenge.rw_rs0157_01.prog w) (callerA.deeper (lawEnv w.params L a (.ref 174))) (execs ((lawBody w.params).drop 7) (lawEnv w.params L a (.ref 174))) Q E s := by
  revert X'
  k_fill
  intro X'
  revert hE
  k_with_none
  w_top off
  generalize hbody : (lawBody w.params).drop 7 = body
  unfold lawEnv
  generalize hscope : lawScope w.params = sc
  conv at hbody => lhs; whnf
  conv at hscope => lhs; whnf
  subst hbody hscope
  intro hE
  dsimp only [kstB] at F'
  (try dsimp only); (try k_fold)
  (repeat' ((fail_if_success (with_reducible show LCg.CompSrc _ _ _ _ _ _ _ _ _ _ _ _ _ _)); (fail_if_success (with_reducible show LCg.CompRest _ _ _ _ _ _ _ _ _ _ _ _ _ _ _ _ _ _ _)); (fail_if_success (with_reducible show LCg.CompEnd _ _ _ _ _ _ _ _ _ _ _ _ _ _)); (fail_if_success (with_reducible show wpAny _ _ (execs (Stmt.For _ _ _ _ _ :: _) _) _ _ _)); first | (k_unfold; (try dsimp only)) | walk1 | (dsimp only; walk1) | (leave1; try dsimp only)))
  rename Fr g L _ _ => FF
  rename News g L _ _ => NN
  refine LCg.CompSrc.ledger (by rfl) FF NN (.head _) (by rw [List.size_toArray, PySem.sizeLine_eq]; omega) ?_
  intro g'
  have hsz : nv.toArray.size = nv.length := List.size_toArray
  obtain ⟨fx, hfx⟩ : ∃ fx : Led, fx = (NM, listOf nv.toArray kN) :: (L + 1, onm) :: own := ⟨_, rfl⟩
  refine comp_ind (fun i ys nw => ∃ Rs ks us, ys = Rs.map Value.ref ∧ Rs.length = i ∧ ks.length = i ∧ us.length = i ∧ nw = fx ++ rowsLed Rs ks us ∧ (∀ u ∈ us, IntsAre u (List.replicate nv.length 0)) ∧ Rs.Nodup ∧ ∀ q ∈ fx, q.1 ∉ Rs) nv.length ?_ ?_ _ 0 [] _ (Nat.zero_add _) ⟨[], [], [], rfl, rfl, rfl, rfl, by rw [hfx]; exact (List.append_nil _).symm, List.forall_mem_nil _, List.nodup_nil, fun q _ => List.not_mem_nil⟩
  · clear FF NN
    rintro i ys nw hi ⟨Rs, ks, us, rfl, hl1, hl2, hl3, rfl, hz, hnd, hoff⟩ v I oI C oC Dq mq h tk E9 hv hC hx F N off ne
    rw [hfx] at N
    simp only [List.cons_append] at N
    (repeat' ((fail_if_success (with_reducible show LCg.CompSrc _ _ _ _ _ _ _ _ _ _ _ _ _ _)); (fail_if_success (with_reducible show LCg.CompRest _ _ _ _ _ _ _ _ _ _ _ _ _ _ _ _ _ _ _)); (fail_if_success (with_reducible show LCg.CompEnd _ _ _ _ _ _ _ _ _ _ _ _ _ _)); (fail_if_success (with_reducible show wpAny _ _ (execs (Stmt.For _ _ _ _ _ :: _) _) _ _ _)); first | (k_unfold; (try dsimp only)) | walk1 | (dsimp only; walk1) | (leave1; try dsimp only)))
    rename (_ < _ ∧ I < _ ∧ C < _ ∧ Dq < _ ∧ NM < _ ∧ L + 1 < _ ∧ AllLt _ _) => hl9
    rename IntsAre _ _ => hI9
    rename Fr g L _ _ => FF
    rename News g L _ _ => NN
    rw [Int.toNat_natCast] at hI9 NN
    rw [flat_rep (a := (0 : Int))] at hI9
    refine gen_list NN hI9 fun v9 NN hI9 => ?_
    have hsn := fun R k u => rowsLed_snoc (Rs := Rs) (ks := ks) (us := us) (R := R) (k := k) (u := u) (by omega) (by omega)
    refine LCg.CompEnd.intro FF NN (fx ++ rowsLed (Rs ++ [_]) (ks ++ [0]) (us ++ [v9])) ?_ (LCg.Off3.of fun p hp => ?_) (.inr ⟨_, List.mem_append_left _ (by rw [hfx]; exact .head _), rfl, _, rfl⟩) ⟨Rs ++ [_], ks ++ [0], us ++ [v9], refs_snoc _ _, by rw [List.length_append, hl1]; rfl, by rw [List.length_append, hl2]; rfl, by rw [List.length_append, hl3]; rfl, rfl, ?_, ?_, ?_⟩
    · rw [hsn, hfx]
      refine List.forall_mem_cons.mpr ⟨.tail _ (.tail _ (.head _)), List.forall_mem_cons.mpr ⟨.tail _ (.tail _ (.tail _ (.head _))), List.forall_mem_cons.mpr ⟨.tail _ (.tail _ (.tail _ (.tail _ (.head _)))), List.forall_mem_cons.mpr ⟨.tail _ (.tail _ (.tail _ (.tail _ (.tail _ (.head _))))), List.forall_mem_cons.mpr ⟨.tail _ (.tail _ (.tail _ (.tail _ (.tail _ (.tail _ (.head _)))))), fun p hp => ?_⟩⟩⟩⟩⟩
      rcases List.mem_append.mp hp with hp | hp
      · exact .tail _ (.tail _ (.tail _ (.tail _ (.tail _ (.tail _ (.tail _ (List.mem_append_left _ hp)))))))
      · rcases List.mem_append.mp hp with hp | hp
        · exact .tail _ (.tail _ (.tail _ (.tail _ (.tail _ (.tail _ (.tail _ (List.mem_append_right _ hp)))))))
        · rw [List.mem_singleton.mp hp]; exact .head _
    · rw [hsn] at hp
      rcases List.mem_append.mp hp with hp | hp
      · exact off.mem p (List.mem_append_left _ hp)
      · rcases List.mem_append.mp hp with hp | hp
        · exact off.mem p (List.mem_append_right _ hp)
        · rw [List.mem_singleton.mp hp]
          exact ⟨Nat.ne_of_gt hl9.2.1, Nat.ne_of_gt hl9.2.2.1, Nat.ne_of_gt hl9.2.2.2.1⟩
    · exact List.forall_mem_append.mpr ⟨hz, List.forall_mem_singleton.mpr hI9⟩
    · refine List.nodup_append.mpr ⟨hnd, List.pairwise_singleton _ _, fun x hx y hy e => ?_⟩
      rw [List.mem_singleton.mp hy] at e
      rw [← rowsLed_fst (Rs := Rs) (ks := ks) (us := us) (by omega) (by omega)] at hx
      obtain ⟨q, hq, e2⟩ := List.mem_map.mp hx
      exact allLt_ne hl9.2.2.2.2.2.2 q (List.mem_append_right _ hq) (e2.trans e)
    · intro q hq hm
      rcases List.mem_append.mp hm with hm | hm
      · exact hoff q hq hm
      · have e := List.mem_singleton.mp hm
        rw [hfx] at hq
        rcases List.mem_cons.mp hq with rfl | hq
        · exact Nat.ne_of_lt hl9.2.2.2.2.1 e
        · rcases List.mem_cons.mp hq with rfl | hq
          · exact Nat.ne_of_lt hl9.2.2.2.2.2.1 e
          · exact allLt_ne hl9.2.2.2.2.2.2 q (List.mem_append_left _ hq) e
  · rintro ys nw ⟨Rs, ks, us, rfl, hl1, hl2, hl3, rfl, hz, hnd, hoff⟩
    intro D h tk F N off
    have hof := off1_ne off
    rw [hfx] at N hof hoff
    refine hnext _ _ _ D (Rs.map Value.ref).length Rs ks us (Fr.kst _ F (List.forall_mem_cons.mpr ⟨rfl, List.forall_mem_cons.mpr ⟨rfl, List.forall_mem_cons.mpr ⟨rfl, List.forall_mem_nil _⟩⟩⟩)) (News.sub N fun q hq => ?_) ⟨hl3, fun x hx => ?_⟩ hl1 hl2 hnd (List.forall_mem_cons.mpr ⟨fun hm => ?_, List.forall_mem_cons.mpr ⟨hoff _ (.tail _ (.head _)), List.forall_mem_cons.mpr ⟨hoff _ (.head _), fun q hq => hoff q (.tail _ (.tail _ hq))⟩⟩⟩) (fun q hq => hof q (List.mem_append_left _ (.tail _ (.tail _ hq))))
    · rcases List.mem_cons.mp hq with rfl | hq
      · exact .head _
      · refine .tail _ ?_
        rcases List.mem_cons.mp hq with rfl | hq
        · exact .tail _ (.head _)
        · rcases List.mem_cons.mp hq with rfl | hq
          · exact .head _
          · refine .tail _ (.tail _ ?_)
            rcases List.mem_append.mp hq with hq | hq
            · exact List.mem_append_right _ hq
            · exact List.mem_append_left _ hq
    · have hm : us.getD x [] ∈ us := by
        rw [List.getD_eq_getElem?_getD, List.getElem?_eq_getElem (by omega)]; exact List.getElem_mem _
      rw [range_zero]
      exact hz _ hm
    · rw [← rowsLed_fst (Rs := Rs) (ks := ks) (us := us) (by omega) (by omega)] at hm
      obtain ⟨q, hq, e2⟩ := List.mem_map.mp hm
      exact hof q (List.mem_append_right _ hq) e2
end Mine

-- L1M
open PySem PySem.W PyProof.Rows PyProof
set_option Elab.async false
set_option maxRecDepth 100000
set_option maxHeartbeats 8000000
set_option pp.deepTerms false
set_option pp.deepTerms.threshold 6
set_option rowWalk.seconds 0
namespace Mine

theorem name_last {prog : Program} {w : World} {A : Around} {E : Value → Shared → Prop} {s : Shared} {g : Heap} {L : Addr} {news : List (Addr × Obj)} {value slice : PySem.Expr} {NM : Addr} {wv : List Value} {kN n : Nat} {x : Str} {u : Tok} {Q : Value → Shared → Prop}
    (N : News g L s.heap news) (hm : (NM, listOf wv.toArray kN) ∈ news) (hn : wv.length = n + 1) (hW : ∃ t, wv[n]? = some (.str x t)) (h : ∀ t, Q (.str x t) s)
    (hs : subscripted slice false (.ref NM) (.int (-1) u) = operate [.ref NM, .int (-1) u] (getItem (.ref NM) (.int (-1) u)) := by with_unfolding_all rfl) :
    wpAny (model prog w) A (subscriptTail value slice (.ref NM) (.int (-1) u)) Q E s := by
  have hL : s.heap.IsList NM wv.toArray := ⟨_, (N _ hm).1, rfl, _, rfl⟩
  obtain ⟨t, ht⟩ := hW
  refine kde_neg (j := n) hL (by decide) (by decide) ?_ ht (h t) hs
  rw [hn]
  simp [seqIndex?]
  omega
theorem wordS_len10 {ws : List (Int × Int × Int)} (hg : GoodWays ws) (i : Nat) : (wordS ws i).length ≤ 10 := by
  have h := wordP_len hg ((rowsN ws ws.length).getD i []) ws.length (Nat.le_refl _)
  have hl := hg.len
  have e : (wordS ws i).length = (wordP ws ((rowsN ws ws.length).getD i []) ws.length).length := List.size_toArray
  omega
theorem two_of {α : Type} {l : List α} (h : 2 ≤ l.length) : ∃ a b r, l = a :: b :: r := by
  match l, h with
  | a :: b :: r, _ => exact ⟨a, b, r, rfl⟩
theorem item_tree0 {prog : Program} {w : World} {A : Around} {E : Value → Shared → Prop} {s : Shared} {value slice : PySem.Expr} {D : Addr} {tr : List (Int × Int)} {a0 l0 : Int} {u : Tok} {Q : Value → Shared → Prop}
    (hl : TreeIn s.heap D tr) (h1 : 0 < tr.length) (e : tr.getD 0 (0, 0) = (a0, l0))
    (h : ∀ T t u, IsTup s.heap T #[.int a0 t, .int l0 u] → Q (.ref T) s)
    (hs : subscripted slice false (.ref D) (.int 0 u) = operate [.ref D, .int 0 u] (getItem (.ref D) (.int 0 u)) := by with_unfolding_all rfl) :
    wpAny (model prog w) A (subscriptTail value slice (.ref D) (.int 0 u)) Q E s := by
  obtain ⟨refs, hl, hn, hT⟩ := hl
  obtain ⟨T, t1, t2, hx, hT1⟩ := hT 0 h1
  rw [e] at hT1
  exact tail_any hl.typeIs slot_list_getitem.lookup (wpAny_getItem_list hl (by decide) (by decide) (by simpa using hx) (h T t1 t2 hT1)) hs
theorem tree_in {ws : List (Int × Int × Int)} {TR : Addr} {Ts : List Addr} {kt : Nat} {own : Led} (hTR : (TR, listOf (Ts.map Value.ref).toArray kt) ∈ own) (hTl : Ts.length = ws.length)
    (htup : ∀ h : Heap, (∀ q ∈ own, h.get? q.1 = some q.2) → ∀ j, j < ws.length → ∃ t u, IsTup h (Ts.getD j 0) #[.int (ws.getD j (0, 0, 0)).1 t, .int (ws.getD j (0, 0, 0)).2.1 u]) : ∀ h : Heap, (∀ q ∈ own, h.get? q.1 = some q.2) → TreeIn h TR (treeW ws) := fun h hh => by
  refine ⟨Ts.map Value.ref, ⟨_, hh _ hTR, rfl, _, rfl⟩, by rw [List.length_map, hTl, treeW_len], fun j hj => ?_⟩
  rw [treeW_len] at hj
  obtain ⟨t, u, e⟩ := htup h hh j hj
  rw [treeW_at]
  refine ⟨Ts.getD j 0, t, u, ?_, e⟩
  rw [List.getElem?_map, List.getD_eq_getElem?_getD, List.getElem?_eq_getElem (by omega)]
  rfl
theorem tab_swap {u0 u1 : List Value} {us : List (List Value)} {T : Nat → Nat → Int} {n : Nat} (h : TabOk (u0 :: u1 :: us) T n) : TabOk (u1 :: u0 :: us) (swpT T) n := by
  refine ⟨h.len, fun i hi => ?_⟩
  match i, hi with
  | 0, _ => exact h.row 1 (by rw [← h.len]; simp)
  | 1, _ => exact h.row 0 (by rw [← h.len]; simp)
  | i + 2, hi => exact h.row (i + 2) hi

theorem law1_mid {w : World} {p : Program} {loose : List Str} {mean : ExcName → Option Value} {mg mb : Str → Option Value} {a : Addr} {ccd : Value} {base g : Heap} {L : Addr} {s : Shared} {Q : Flow → Shared → Prop} {E : Value → Shared → Prop} {m₀ : Str → Option Value} {SC TB TR NM : Addr} {kT kN kt n : Nat} {Rs Ts : List Addr} {ks : List Nat} {us0 : List (List Value)} {nv sus : List Value} {sns : List Int} {ws : List (Int × Int × Int)} {onm : Obj} {own : Led}
    (B' : Below callerA base [] g) (F' : Fr g L s.heap (kstB m₀ [(Str.ofString "table", .ref TB), (Str.ofString "tree", .ref TR), (Str.ofString "script", .ref SC)])) (X' : (hd1.heap_1 w.params).In g) (T' : Top p loose mean mg mb g)
    (N' : News g L s.heap ((TB, listOf (Rs.map Value.ref).toArray kT) :: (L + 1, onm) :: (NM, listOf nv.toArray kN) :: (rowsLed Rs ks us0 ++ own))) (hnm : onm.data = .cell (some (.ref NM)))
    (hTab : TabOk us0 (fun _ _ => 0) n) (hR : Rs.length = n) (hk : ks.length = n) (hnd : Rs.Nodup) (hoff : ∀ p ∈ (TB, listOf (Rs.map Value.ref).toArray kT) :: (L + 1, onm) :: (NM, listOf nv.toArray kN) :: own, p.1 ∉ Rs) (hTBo : ∀ q ∈ own, q.1 ≠ TB)
    (hnl : nv.length = n) (hnv : ∀ j, j < n → ∃ t, nv[j]? = some (.str (wordS ws j) t)) (hgw : GoodWays ws) (hwn : ws.length + 1 = n)
    (hS : g.IsList SC sus.toArray) (hSI : IntsAre sus sns) (hS63 : sns.length ≤ 63)
    (hTR : (TR, listOf (Ts.map Value.ref).toArray kt) ∈ own) (hTl : Ts.length = ws.length)
    (htup : ∀ h : Heap, (∀ q ∈ own, h.get? q.1 = some q.2) → ∀ j, j < ws.length → ∃ t u, IsTup h (Ts.getD j 0) #[.int (ws.getD j (0, 0, 0)).1 t, .int (ws.getD j (0, 0, 0)).2.1 u])
    (hE : PassesOwn (model PySem.Challenge.rw_rs0157_01.prog w) (callerA.deeper (lawEnv w.params L a ccd)) (lawEnv w.params L a ccd) E)
    (hnext : ∀ h' tk' u tl Rs' ks' us', Fr g L h' (kstB u [(Str.ofString "tree", .ref TR), (Str.ofString "table", .ref TB), (Str.ofString "last", .int 1 tl)]) → News g L h' ((TB, listOf (Rs'.map Value.ref).toArray kT) :: (rowsLed Rs' ks' us' ++ own)) → TabOk us' (stT (swpT (dueT (treeW ws))) 0).1 n → Rs'.length = n → ks'.length = n → Rs'.Nodup → (∀ p ∈ (TB, listOf (Rs'.map Value.ref).toArray kT) :: own, p.1 ∉ Rs') →
      wpAny (model PySem.Challenge.rw_rs0157_01.prog w) (callerA.deeper (lawEnv w.params L a ccd)) (execs ((lawBody w.params).drop 14) (lawEnv w.params L a ccd)) Q E { s with heap := h', toks := tk' }) :
    wpAny (model PySem.Challenge.rw_rs0157_01.prog w) (callerA.deeper (lawEnv w.params L a ccd)) (execs ((lawBody w.params).drop 8) (lawEnv w.params L a ccd)) Q E s := by
  revert X'
  k_fill
  intro X'
  revert hE
  k_with_none
  w_top off
  generalize hbody : (lawBody w.params).drop 8 = body
  unfold lawEnv
  generalize hscope : lawScope w.params = sc
  conv at hbody => lhs; whnf
  conv at hscope => lhs; whnf
  subst hbody hscope
  intro hE
  (try dsimp only); (try k_fold)
  have hlen := hgw.len
  have htree := tree_in hTR hTl htup
  refine wpAny_execs_cons (pair_ok (tr := treeW ws) (word := wordS ws) B' F' X' T' N' hnm hTab hR hk (by omega) hnd hoff hnl hnv (fun i _ => Nat.le_trans (wordS_len10 hgw i) (by decide)) hS hSI hS63 (treeW_good hgw) (by rw [treeW_len]; exact hwn) htree (fun i j hj hi b hb => lev_words hgw hj (by omega) b hb) hE ?_)
  · intro us1 h1 tk1 u1 hT1 F1 N1
    dsimp only
    obtain ⟨u9, FF⟩ := Fr.norm [(Str.ofString "tree", .ref TR), (Str.ofString "table", .ref TB)] F1 (List.forall_mem_cons.mpr ⟨rfl, List.forall_mem_cons.mpr ⟨rfl, List.forall_mem_nil _⟩⟩)
    clear F1 F' N' hTab
    dsimp only [kstB] at FF
    have hszt : (Ts.map Value.ref).toArray.size = ws.length := by rw [List.size_toArray, List.length_map, hTl]
    have N2 : News g L h1 ((TR, listOf (Ts.map Value.ref).toArray kt) :: (TB, listOf (Rs.map Value.ref).toArray kT) :: (L + 1, onm) :: (NM, listOf nv.toArray kN) :: (rowsLed Rs ks us1 ++ own)) := fun q hq => by
      rcases List.mem_cons.mp hq with rfl | hq
      · exact N1 _ (.tail _ (.tail _ (.tail _ (List.mem_append_right _ hTR))))
      · exact N1 _ hq
    have hsub : ∀ q ∈ own, q ∈ (TR, listOf (Ts.map Value.ref).toArray kt) :: (TB, listOf (Rs.map Value.ref).toArray kT) :: (L + 1, onm) :: (NM, listOf nv.toArray kN) :: (rowsLed Rs ks us1 ++ own) := fun q hq => .tail _ (.tail _ (.tail _ (.tail _ (List.mem_append_right _ hq))))
    clear N1
    (repeat' ((fail_if_success (with_reducible show wpAny _ _ (subscriptTail (PySem.Expr.Name (Str.ofString "names") _) _ _ _) _ _ _)); (fail_if_success (with_reducible show wpAny _ _ (subscriptTail (PySem.Expr.Name (Str.ofString "tree") _) _ _ _) _ _ _)); (fail_if_success (with_reducible show wpAny _ _ (PySem.call (Value.ref 163) _) _ _ _)); (fail_if_success (with_reducible show wpAny _ _ (PySem.call (Value.ref 28) _) _ _ _)); (fail_if_success (with_reducible show wpAny _ _ (PySem.setItem _ _ _) _ _ _)); (fail_if_success (with_reducible show wpAny _ _ (execs (Stmt.For _ _ _ _ _ :: _) _) _ _ _)); first | ((with_reducible show wpAny _ _ (subscriptTail (PySem.Expr.Name (Str.ofString "table") _) _ (Value.ref _) (Value.int _ _)) _ _ _); refine row_item (by assumption) (by k_mem) (by first | assumption | omega) (by first | assumption | omega) (by first | assumption | omega) ?_) | ((with_reducible show wpAny _ _ (subscriptTail (PySem.Expr.Subscript _ _ _) _ (Value.ref _) (Value.int _ _)) _ _ _); refine tup_at (by first | assumption | exact IsTup.keeps (by assumption) (Fr.keep (by assumption))) (by decide) (by decide) rfl ?_) | ((with_reducible show wpAny _ _ (callWith _ (Value.ref _) _ _ _) _ _ _); refine callWith_K (by k_asm) (by k_is) ?_; (try dsimp only [List.nil_append, List.cons_append])) | (k_unfold; (try dsimp only)) | walk1 | (dsimp only; walk1) | (leave1; try dsimp only)))
    rename Fr g L _ _ => FF
    rename News g L _ _ => NN
    have htl := treeW_len ws
    refine Pure.call (between_ok TR (treeW ws) _ _ _ _) B' FF X' T' NN rfl (by show _ < _; decide) (by show _ < _; decide) ⟨htree _ fun q hq => (NN q (hsub q hq)).1, treeW_good hgw, by omega, by omega, by omega, by omega, by omega⟩ ?_
    rintro v h2 tk2 st2 ⟨t2, hv⟩ F2 N2
    clear st2 FF NN
    have hd : betF (treeW ws) ((ws.length : Int) + 0).toNat (ws.length : Int) 0 0 = dueT (treeW ws) ws.length 0 := by
      unfold dueT
      rw [if_pos (by omega)]; rfl
    rw [hd] at hv
    have hzy := lev_zy hgw
    have hdb := due_bd hgw
    generalize dueT (treeW ws) ws.length 0 = d at hv hzy hdb
    subst hv
    have hw0 := wordS_len10 hgw 0
    have hwn := wordS_len10 hgw ws.length
    (repeat' ((fail_if_success (with_reducible show wpAny _ _ (subscriptTail (PySem.Expr.Name (Str.ofString "names") _) _ _ _) _ _ _)); (fail_if_success (with_reducible show wpAny _ _ (subscriptTail (PySem.Expr.Name (Str.ofString "tree") _) _ _ _) _ _ _)); (fail_if_success (with_reducible show wpAny _ _ (PySem.call (Value.ref 163) _) _ _ _)); (fail_if_success (with_reducible show wpAny _ _ (PySem.call (Value.ref 28) _) _ _ _)); (fail_if_success (with_reducible show wpAny _ _ (PySem.setItem _ _ _) _ _ _)); (fail_if_success (with_reducible show wpAny _ _ (execs (Stmt.For _ _ _ _ _ :: _) _) _ _ _)); first | ((with_reducible show wpAny _ _ (subscriptTail (PySem.Expr.Name (Str.ofString "table") _) _ (Value.ref _) (Value.int _ _)) _ _ _); refine row_item (by assumption) (by k_mem) (by first | assumption | omega) (by first | assumption | omega) (by first | assumption | omega) ?_) | ((with_reducible show wpAny _ _ (subscriptTail (PySem.Expr.Subscript _ _ _) _ (Value.ref _) (Value.int _ _)) _ _ _); refine tup_at (by first | assumption | exact IsTup.keeps (by assumption) (Fr.keep (by assumption))) (by decide) (by decide) rfl ?_) | ((with_reducible show wpAny _ _ (callWith _ (Value.ref _) _ _ _) _ _ _); refine callWith_K (by k_asm) (by k_is) ?_; (try dsimp only [List.nil_append, List.cons_append])) | (k_unfold; (try dsimp only)) | walk1 | (dsimp only; walk1) | (leave1; try dsimp only)))
    rename Fr g L _ _ => FF
    rename News g L _ _ => NN
    refine name_last NN (.tail _ (.tail _ (.tail _ (.head _)))) (n := ws.length) (by omega) (hnv ws.length (by omega)) fun t3 => ?_
    (repeat' ((fail_if_success (with_reducible show wpAny _ _ (subscriptTail (PySem.Expr.Name (Str.ofString "names") _) _ _ _) _ _ _)); (fail_if_success (with_reducible show wpAny _ _ (subscriptTail (PySem.Expr.Name (Str.ofString "tree") _) _ _ _) _ _ _)); (fail_if_success (with_reducible show wpAny _ _ (PySem.call (Value.ref 163) _) _ _ _)); (fail_if_success (with_reducible show wpAny _ _ (PySem.call (Value.ref 28) _) _ _ _)); (fail_if_success (with_reducible show wpAny _ _ (PySem.setItem _ _ _) _ _ _)); (fail_if_success (with_reducible show wpAny _ _ (execs (Stmt.For _ _ _ _ _ :: _) _) _ _ _)); first | ((with_reducible show wpAny _ _ (subscriptTail (PySem.Expr.Name (Str.ofString "table") _) _ (Value.ref _) (Value.int _ _)) _ _ _); refine row_item (by assumption) (by k_mem) (by first | assumption | omega) (by first | assumption | omega) (by first | assumption | omega) ?_) | ((with_reducible show wpAny _ _ (subscriptTail (PySem.Expr.Subscript _ _ _) _ (Value.ref _) (Value.int _ _)) _ _ _); refine tup_at (by first | assumption | exact IsTup.keeps (by assumption) (Fr.keep (by assumption))) (by decide) (by decide) rfl ?_) | ((with_reducible show wpAny _ _ (callWith _ (Value.ref _) _ _ _) _ _ _); refine callWith_K (by k_asm) (by k_is) ?_; (try dsimp only [List.nil_append, List.cons_append])) | (k_unfold; (try dsimp only)) | walk1 | (dsimp only; walk1) | (leave1; try dsimp only)))
    rename Fr g L _ _ => FF
    rename News g L _ _ => NN
    refine name_item (n := n) (word := wordS ws) NN (.tail _ (.tail _ (.tail _ (.head _)))) hnv (by omega) (by omega) (by omega) fun t4 => ?_
    rw [show Int.toNat 0 = 0 from rfl]
    (repeat' ((fail_if_success (with_reducible show wpAny _ _ (subscriptTail (PySem.Expr.Name (Str.ofString "names") _) _ _ _) _ _ _)); (fail_if_success (with_reducible show wpAny _ _ (subscriptTail (PySem.Expr.Name (Str.ofString "tree") _) _ _ _) _ _ _)); (fail_if_success (with_reducible show wpAny _ _ (PySem.call (Value.ref 163) _) _ _ _)); (fail_if_success (with_reducible show wpAny _ _ (PySem.call (Value.ref 28) _) _ _ _)); (fail_if_success (with_reducible show wpAny _ _ (PySem.setItem _ _ _) _ _ _)); (fail_if_success (with_reducible show wpAny _ _ (execs (Stmt.For _ _ _ _ _ :: _) _) _ _ _)); first | ((with_reducible show wpAny _ _ (subscriptTail (PySem.Expr.Name (Str.ofString "table") _) _ (Value.ref _) (Value.int _ _)) _ _ _); refine row_item (by assumption) (by k_mem) (by first | assumption | omega) (by first | assumption | omega) (by first | assumption | omega) ?_) | ((with_reducible show wpAny _ _ (subscriptTail (PySem.Expr.Subscript _ _ _) _ (Value.ref _) (Value.int _ _)) _ _ _); refine tup_at (by first | assumption | exact IsTup.keeps (by assumption) (Fr.keep (by assumption))) (by decide) (by decide) rfl ?_) | ((with_reducible show wpAny _ _ (callWith _ (Value.ref _) _ _ _) _ _ _); refine callWith_K (by k_asm) (by k_is) ?_; (try dsimp only [List.nil_append, List.cons_append])) | (k_unfold; (try dsimp only)) | walk1 | (dsimp only; walk1) | (leave1; try dsimp only)))
    rename Fr g L _ _ => FF
    rename News g L _ _ => NN
    obtain ⟨a0, l0, e0, hg0⟩ : ∃ a0 l0, (treeW ws).getD 0 (0, 0) = (a0, l0) ∧ 1 ≤ l0 ∧ l0 ≤ 2 := ⟨_, _, treeW_at ws 0, (hgw.at' 0 (by omega)).2.2.1, (hgw.at' 0 (by omega)).2.2.2.1⟩
    refine item_tree0 (htree _ fun q hq => (NN q (hsub q hq)).1) (by omega) e0 fun T5 t5 u5 hT5 => ?_
    (repeat' ((fail_if_success (with_reducible show wpAny _ _ (subscriptTail (PySem.Expr.Name (Str.ofString "names") _) _ _ _) _ _ _)); (fail_if_success (with_reducible show wpAny _ _ (subscriptTail (PySem.Expr.Name (Str.ofString "tree") _) _ _ _) _ _ _)); (fail_if_success (with_reducible show wpAny _ _ (PySem.call (Value.ref 163) _) _ _ _)); (fail_if_success (with_reducible show wpAny _ _ (PySem.call (Value.ref 28) _) _ _ _)); (fail_if_success (with_reducible show wpAny _ _ (PySem.setItem _ _ _) _ _ _)); (fail_if_success (with_reducible show wpAny _ _ (execs (Stmt.For _ _ _ _ _ :: _) _) _ _ _)); first | ((with_reducible show wpAny _ _ (subscriptTail (PySem.Expr.Name (Str.ofString "table") _) _ (Value.ref _) (Value.int _ _)) _ _ _); refine row_item (by assumption) (by k_mem) (by first | assumption | omega) (by first | assumption | omega) (by first | assumption | omega) ?_) | ((with_reducible show wpAny _ _ (subscriptTail (PySem.Expr.Subscript _ _ _) _ (Value.ref _) (Value.int _ _)) _ _ _); refine tup_at (by first | assumption | exact IsTup.keeps (by assumption) (Fr.keep (by assumption))) (by decide) (by decide) rfl ?_) | ((with_reducible show wpAny _ _ (callWith _ (Value.ref _) _ _ _) _ _ _); refine callWith_K (by k_asm) (by k_is) ?_; (try dsimp only [List.nil_append, List.cons_append])) | (k_unfold; (try dsimp only)) | walk1 | (dsimp only; walk1) | (leave1; try dsimp only)))
    rename Fr g L _ _ => FF
    rename News g L _ _ => NN
    have ez : (Str.ofString "z").length = 1 := by decide +kernel
    have ey : (Str.ofString "y").length = 1 := by decide +kernel
    have eyz : (Str.ofString "yz").length = 2 := by decide +kernel
    refine Pure.call (levV_ok _ _ _ (d + 4) _ _ _) B' FF X' T' NN rfl (by show _ < _; decide) (by show _ < _; decide) ⟨by rw [Str.length_append]; omega, by rw [Str.length_append]; omega, hzy _ (by omega)⟩ ?_
    rintro v h6 tk6 st6 ⟨t6, rfl⟩ F6 N6
    clear st6 FF NN
    (repeat' ((fail_if_success (with_reducible show wpAny _ _ (subscriptTail (PySem.Expr.Name (Str.ofString "names") _) _ _ _) _ _ _)); (fail_if_success (with_reducible show wpAny _ _ (subscriptTail (PySem.Expr.Name (Str.ofString "tree") _) _ _ _) _ _ _)); (fail_if_success (with_reducible show wpAny _ _ (PySem.call (Value.ref 163) _) _ _ _)); (fail_if_success (with_reducible show wpAny _ _ (PySem.call (Value.ref 28) _) _ _ _)); (fail_if_success (with_reducible show wpAny _ _ (PySem.setItem _ _ _) _ _ _)); (fail_if_success (with_reducible show wpAny _ _ (execs (Stmt.For _ _ _ _ _ :: _) _) _ _ _)); first | ((with_reducible show wpAny _ _ (subscriptTail (PySem.Expr.Name (Str.ofString "table") _) _ (Value.ref _) (Value.int _ _)) _ _ _); refine row_item (by assumption) (by k_mem) (by first | assumption | omega) (by first | assumption | omega) (by first | assumption | omega) ?_) | ((with_reducible show wpAny _ _ (subscriptTail (PySem.Expr.Subscript _ _ _) _ (Value.ref _) (Value.int _ _)) _ _ _); refine tup_at (by first | assumption | exact IsTup.keeps (by assumption) (Fr.keep (by assumption))) (by decide) (by decide) rfl ?_) | ((with_reducible show wpAny _ _ (callWith _ (Value.ref _) _ _ _) _ _ _); refine callWith_K (by k_asm) (by k_is) ?_; (try dsimp only [List.nil_append, List.cons_append])) | (k_unfold; (try dsimp only)) | walk1 | (dsimp only; walk1) | (leave1; try dsimp only)))
    all_goals (try (exfalso; omega; done))
    rename Fr g L _ _ => FF
    rename News g L _ _ => NN
    refine name_item (n := n) (word := wordS ws) NN (.tail _ (.tail _ (.tail _ (.head _)))) hnv (by omega) (by omega) (by omega) fun t4 => ?_
    rw [show Int.toNat 0 = 0 from rfl]
    (repeat' ((fail_if_success (with_reducible show wpAny _ _ (subscriptTail (PySem.Expr.Name (Str.ofString "names") _) _ _ _) _ _ _)); (fail_if_success (with_reducible show wpAny _ _ (subscriptTail (PySem.Expr.Name (Str.ofString "tree") _) _ _ _) _ _ _)); (fail_if_success (with_reducible show wpAny _ _ (PySem.call (Value.ref 163) _) _ _ _)); (fail_if_success (with_reducible show wpAny _ _ (PySem.call (Value.ref 28) _) _ _ _)); (fail_if_success (with_reducible show wpAny _ _ (PySem.setItem _ _ _) _ _ _)); (fail_if_success (with_reducible show wpAny _ _ (execs (Stmt.For _ _ _ _ _ :: _) _) _ _ _)); first | ((with_reducible show wpAny _ _ (subscriptTail (PySem.Expr.Name (Str.ofString "table") _) _ (Value.ref _) (Value.int _ _)) _ _ _); refine row_item (by assumption) (by k_mem) (by first | assumption | omega) (by first | assumption | omega) (by first | assumption | omega) ?_) | ((with_reducible show wpAny _ _ (subscriptTail (PySem.Expr.Subscript _ _ _) _ (Value.ref _) (Value.int _ _)) _ _ _); refine tup_at (by first | assumption | exact IsTup.keeps (by assumption) (Fr.keep (by assumption))) (by decide) (by decide) rfl ?_) | ((with_reducible show wpAny _ _ (callWith _ (Value.ref _) _ _ _) _ _ _); refine callWith_K (by k_asm) (by k_is) ?_; (try dsimp only [List.nil_append, List.cons_append])) | (k_unfold; (try dsimp only)) | walk1 | (dsimp only; walk1) | (leave1; try dsimp only)))
    rename Fr g L _ _ => FF
    rename News g L _ _ => NN
    refine name_item (n := n) (word := wordS ws) NN (.tail _ (.tail _ (.tail _ (.head _)))) hnv (by omega) (by omega) (by omega) fun t4 => ?_
    rw [show Int.toNat 0 = 0 from rfl]
    (repeat' ((fail_if_success (with_reducible show wpAny _ _ (subscriptTail (PySem.Expr.Name (Str.ofString "names") _) _ _ _) _ _ _)); (fail_if_success (with_reducible show wpAny _ _ (subscriptTail (PySem.Expr.Name (Str.ofString "tree") _) _ _ _) _ _ _)); (fail_if_success (with_reducible show wpAny _ _ (PySem.call (Value.ref 163) _) _ _ _)); (fail_if_success (with_reducible show wpAny _ _ (PySem.call (Value.ref 28) _) _ _ _)); (fail_if_success (with_reducible show wpAny _ _ (PySem.setItem _ _ _) _ _ _)); (fail_if_success (with_reducible show wpAny _ _ (execs (Stmt.For _ _ _ _ _ :: _) _) _ _ _)); first | ((with_reducible show wpAny _ _ (subscriptTail (PySem.Expr.Name (Str.ofString "table") _) _ (Value.ref _) (Value.int _ _)) _ _ _); refine row_item (by assumption) (by k_mem) (by first | assumption | omega) (by first | assumption | omega) (by first | assumption | omega) ?_) | ((with_reducible show wpAny _ _ (subscriptTail (PySem.Expr.Subscript _ _ _) _ (Value.ref _) (Value.int _ _)) _ _ _); refine tup_at (by first | assumption | exact IsTup.keeps (by assumption) (Fr.keep (by assumption))) (by decide) (by decide) rfl ?_) | ((with_reducible show wpAny _ _ (callWith _ (Value.ref _) _ _ _) _ _ _); refine callWith_K (by k_asm) (by k_is) ?_; (try dsimp only [List.nil_append, List.cons_append])) | (k_unfold; (try dsimp only)) | walk1 | (dsimp only; walk1) | (leave1; try dsimp only)))
    rename Fr g L _ _ => FF
    rename News g L _ _ => NN
    refine Pure.call (levV_ok _ _ _ 4 _ _ _) B' FF X' T' NN rfl (by show _ < _; decide) (by show _ < _; decide) ⟨by omega, by rw [Str.length_append]; omega, lev_four hgw _⟩ ?_
    rintro v h7 tk7 st7 ⟨t7, rfl⟩ F7 N7
    clear st7 FF NN
    (repeat' ((fail_if_success (with_reducible show wpAny _ _ (subscriptTail (PySem.Expr.Name (Str.ofString "names") _) _ _ _) _ _ _)); (fail_if_success (with_reducible show wpAny _ _ (subscriptTail (PySem.Expr.Name (Str.ofString "tree") _) _ _ _) _ _ _)); (fail_if_success (with_reducible show wpAny _ _ (PySem.call (Value.ref 163) _) _ _ _)); (fail_if_success (with_reducible show wpAny _ _ (PySem.call (Value.ref 28) _) _ _ _)); (fail_if_success (with_reducible show wpAny _ _ (PySem.setItem _ _ _) _ _ _)); (fail_if_success (with_reducible show wpAny _ _ (execs (Stmt.For _ _ _ _ _ :: _) _) _ _ _)); first | ((with_reducible show wpAny _ _ (subscriptTail (PySem.Expr.Name (Str.ofString "table") _) _ (Value.ref _) (Value.int _ _)) _ _ _); refine row_item (by assumption) (by k_mem) (by first | assumption | omega) (by first | assumption | omega) (by first | assumption | omega) ?_) | ((with_reducible show wpAny _ _ (subscriptTail (PySem.Expr.Subscript _ _ _) _ (Value.ref _) (Value.int _ _)) _ _ _); refine tup_at (by first | assumption | exact IsTup.keeps (by assumption) (Fr.keep (by assumption))) (by decide) (by decide) rfl ?_) | ((with_reducible show wpAny _ _ (callWith _ (Value.ref _) _ _ _) _ _ _); refine callWith_K (by k_asm) (by k_is) ?_; (try dsimp only [List.nil_append, List.cons_append])) | (k_unfold; (try dsimp only)) | walk1 | (dsimp only; walk1) | (leave1; try dsimp only)))
    all_goals (try (exfalso; omega; done))
    rename Fr g L _ _ => FF
    rename News g L _ _ => NN
    have hTBr : ∀ q ∈ rowsLed Rs ks us1 ++ own, q.1 ≠ TB := fun q hq => by
      rcases List.mem_append.mp hq with hq | hq
      · intro e
        have hm := mem_fst hq
        rw [rowsLed_fst (by omega) (by rw [hT1.len]; omega), e] at hm
        exact hoff _ (.head _) hm
      · exact hTBo q hq
    have NX : News g L _ ((TB, listOf (Rs.map Value.ref).toArray kT) :: (rowsLed Rs ks us1 ++ own)) := fun q hq => NN q (by
      rcases List.mem_cons.mp hq with rfl | hq
      · k_mem
      · repeat (first | exact .tail _ (.tail _ (.tail _ (.tail _ hq))) | refine .tail _ ?_))
    clear NN
    refine list_set FF NX hTBr (by omega) (by rw [List.length_map]; omega) (by rw [List.length_map]; omega) (fun h8 F8 N8 => ?_)
    clear FF NX
    (repeat' ((fail_if_success (with_reducible show wpAny _ _ (subscriptTail (PySem.Expr.Name (Str.ofString "names") _) _ _ _) _ _ _)); (fail_if_success (with_reducible show wpAny _ _ (subscriptTail (PySem.Expr.Name (Str.ofString "tree") _) _ _ _) _ _ _)); (fail_if_success (with_reducible show wpAny _ _ (PySem.call (Value.ref 163) _) _ _ _)); (fail_if_success (with_reducible show wpAny _ _ (PySem.call (Value.ref 28) _) _ _ _)); (fail_if_success (with_reducible show wpAny _ _ (PySem.setItem _ _ _) _ _ _)); (fail_if_success (with_reducible show wpAny _ _ (execs (Stmt.For _ _ _ _ _ :: _) _) _ _ _)); first | ((with_reducible show wpAny _ _ (subscriptTail (PySem.Expr.Name (Str.ofString "table") _) _ (Value.ref _) (Value.int _ _)) _ _ _); refine row_item (by assumption) (by k_mem) (by first | assumption | omega) (by first | assumption | omega) (by first | assumption | omega) ?_) | ((with_reducible show wpAny _ _ (subscriptTail (PySem.Expr.Subscript _ _ _) _ (Value.ref _) (Value.int _ _)) _ _ _); refine tup_at (by first | assumption | exact IsTup.keeps (by assumption) (Fr.keep (by assumption))) (by decide) (by decide) rfl ?_) | ((with_reducible show wpAny _ _ (callWith _ (Value.ref _) _ _ _) _ _ _); refine callWith_K (by k_asm) (by k_is) ?_; (try dsimp only [List.nil_append, List.cons_append])) | (k_unfold; (try dsimp only)) | walk1 | (dsimp only; walk1) | (leave1; try dsimp only)))
    rename Fr g L _ _ => FF
    rename News g L _ _ => NN
    refine list_set FF NN hTBr (by omega) (by rw [List.length_set, List.length_map]; omega) (by rw [List.length_set, List.length_map]; omega) (fun h9 F9 N9 => ?_)
    clear FF NN
    (repeat' ((fail_if_success (with_reducible show wpAny _ _ (subscriptTail (PySem.Expr.Name (Str.ofString "names") _) _ _ _) _ _ _)); (fail_if_success (with_reducible show wpAny _ _ (subscriptTail (PySem.Expr.Name (Str.ofString "tree") _) _ _ _) _ _ _)); (fail_if_success (with_reducible show wpAny _ _ (PySem.call (Value.ref 163) _) _ _ _)); (fail_if_success (with_reducible show wpAny _ _ (PySem.call (Value.ref 28) _) _ _ _)); (fail_if_success (with_reducible show wpAny _ _ (PySem.setItem _ _ _) _ _ _)); (fail_if_success (with_reducible show wpAny _ _ (execs (Stmt.For _ _ _ _ _ :: _) _) _ _ _)); first | ((with_reducible show wpAny _ _ (subscriptTail (PySem.Expr.Name (Str.ofString "table") _) _ (Value.ref _) (Value.int _ _)) _ _ _); refine row_item (by assumption) (by k_mem) (by first | assumption | omega) (by first | assumption | omega) (by first | assumption | omega) ?_) | ((with_reducible show wpAny _ _ (subscriptTail (PySem.Expr.Subscript _ _ _) _ (Value.ref _) (Value.int _ _)) _ _ _); refine tup_at (by first | assumption | exact IsTup.keeps (by assumption) (Fr.keep (by assumption))) (by decide) (by decide) rfl ?_) | ((with_reducible show wpAny _ _ (callWith _ (Value.ref _) _ _ _) _ _ _); refine callWith_K (by k_asm) (by k_is) ?_; (try dsimp only [List.nil_append, List.cons_append])) | (k_unfold; (try dsimp only)) | walk1 | (dsimp only; walk1) | (leave1; try dsimp only)))
    dsimp only
    rename Fr g L _ _ => FF
    rename News g L _ _ => NN
    have hul := hT1.len
    obtain ⟨R0, R1, Rr, rfl⟩ := two_of (l := Rs) (by omega)
    obtain ⟨k0, k1, kr, rfl⟩ := two_of (l := ks) (by omega)
    obtain ⟨u0, u1, ur, rfl⟩ := two_of (l := us1) (by omega)
    have hpm : List.Perm (R1 :: R0 :: Rr) (R0 :: R1 :: Rr) := List.Perm.swap _ _ _
    refine hnext _ _ _ _ (R1 :: R0 :: Rr) (k1 :: k0 :: kr) (u1 :: u0 :: ur) (Fr.kst _ FF (List.forall_mem_cons.mpr ⟨rfl, List.forall_mem_cons.mpr ⟨rfl, List.forall_mem_cons.mpr ⟨rfl, List.forall_mem_nil _⟩⟩⟩)) (fun q hq => ?_) (tab_swap hT1) (by rw [← hR]; rfl) (by rw [← hk]; rfl) ((List.Perm.nodup_iff hpm).mpr hnd) (List.forall_mem_cons.mpr ⟨fun e => hoff _ (.head _) (hpm.mem_iff.mp e), fun q hq e => hoff q (.tail _ (.tail _ (.tail _ hq))) (hpm.mem_iff.mp e)⟩)
    rcases List.mem_cons.mp hq with rfl | hq
    · exact NN _ (.head _)
    · refine NN q (.tail _ ?_)
      rcases List.mem_append.mp hq with hq | hq
      · rcases List.mem_cons.mp hq with rfl | hq
        · exact .tail _ (.head _)
        · rcases List.mem_cons.mp hq with rfl | hq
          · exact .head _
          · exact .tail _ (.tail _ (List.mem_append_left _ hq))
      · exact List.mem_append_right _ hq
end Mine

-- L1E
open PySem PySem.W PyProof.Rows PyProof
set_option Elab.async false
set_option maxRecDepth 100000
set_option maxHeartbeats 8000000
set_option pp.deepTerms false
set_option pp.deepTerms.threshold 6
set_option rowWalk.seconds 0
namespace Mine

theorem law1_elim {w : World} {p : Program} {loose : List Str} {mean : ExcName → Option Value} {mg mb : Str → Option Value} {a : Addr} {ccd : Value} {base g : Heap} {L : Addr} {s : Shared} {Q : Flow → Shared → Prop} {E : Value → Shared → Prop} {m₀ : Str → Option Value} {TB TR : Addr} {kT kt n : Nat} {Rs Ts : List Addr} {ks : List Nat} {us0 : List (List Value)} {tr : List (Int × Int)} {tl : Tok} {own t : Led}
    (B' : Below callerA base [] g) (F' : Fr g L s.heap (kstB m₀ [(Str.ofString "tree", .ref TR), (Str.ofString "table", .ref TB), (Str.ofString "last", .int 1 tl)])) (X' : (hd1.heap_1 w.params).In g) (T' : Top p loose mean mg mb g)
    (N' : News g L s.heap ((TB, listOf (Rs.map Value.ref).toArray kT) :: (rowsLed Rs ks us0 ++ own)))
    (hTab : TabOk us0 (stT (swpT (dueT tr)) 0).1 n) (hR : Rs.length = n) (hk : ks.length = n) (hn : n ≤ 5) (hnd : Rs.Nodup) (hTB : TB ∉ Rs) (hoff : ∀ p ∈ own, p.1 ∉ Rs)
    (hft : FilT w t) (ht : ∀ q ∈ t, q ∈ own) (hTR : (TR, listOf (Ts.map Value.ref).toArray kt) ∈ own) (hTl : Ts.length = tr.length) (hgt : GoodTree tr)
    (htup : ∀ h : Heap, (∀ q ∈ own, h.get? q.1 = some q.2) → ∀ j, j < tr.length → ∃ t u, IsTup h (Ts.getD j 0) #[.int (tr.getD j (0, 0)).1 t, .int (tr.getD j (0, 0)).2 u])
    (htl : tr.length + 1 = n) (hst : ∀ q, q < n → StepOk n q (stT (swpT (dueT tr)) q).2 (tr.map (·.2)) (stT (swpT (dueT tr)) q).1)
    (hE : PassesOwn (model PySem.Challenge.rw_rs0157_01.prog w) (callerA.deeper (lawEnv w.params L a ccd)) (lawEnv w.params L a ccd) E)
    (hret : ∀ h' tk' m' nx, Fr g L h' m' → News g L h' nx → (∀ q ∈ own, q ∈ nx) → Q (.ret (.bool true)) { s with heap := h', toks := tk' }) :
    wpAny (model PySem.Challenge.rw_rs0157_01.prog w) (callerA.deeper (lawEnv w.params L a ccd)) (execs ((lawBody w.params).drop 14) (lawEnv w.params L a ccd)) Q E s := by
  revert X'
  k_fill
  intro X'
  revert hE
  k_with_none
  w_top off
  generalize hbody : (lawBody w.params).drop 14 = body
  unfold lawEnv
  generalize hscope : lawScope w.params = sc
  conv at hbody => lhs; whnf
  conv at hscope => lhs; whnf
  subst hbody hscope
  intro hE
  dsimp only [kstB] at F'
  (try dsimp only); (try k_fold)
  have hsz : (Rs.map Value.ref).toArray.size = n := by rw [List.size_toArray, List.length_map, hR]
  refine wpAny_execs_cons ?_
  rename Fr g L _ _ => FF
  with_unfolding_all refine' For_invVF FF ?k1 ?k2 ?_ (hE := hE)
  case k1 => exact rfl
  case k2 => exact rfl
  (repeat' ((fail_if_success (with_reducible show wpAny _ _ (pyIter _) _ _ _)); first | (k_unfold; (try dsimp only)) | walk1 | (dsimp only; walk1) | (leave1; try dsimp only)))
  rename Fr g L _ _ => FF
  rename News g L _ _ => NN
  rename IsRange _ _ _ _ _ _ _ _ => hRg
  obtain ⟨S, hS⟩ : ∃ S, S = stT (swpT (dueT tr)) := ⟨_, rfl⟩
  rw [← hS] at hTab hst
  have hS0 : (1 : Int) = (S 0).2 := by rw [hS]; rfl
  refine kst_range (σ := List (List Value) × Int × Tok) (n := n) (fun c => (TB, listOf (Rs.map Value.ref).toArray kT) :: (rowsLed Rs ks c.1 ++ own)) (fun c => [(Str.ofString "last", .int c.2.1 c.2.2)]) (fun c => c.1.length = n) [Str.ofString "top", Str.ofString "i", Str.ofString "j", Str.ofString "cross", Str.ofString "rest"] (fun pre c => TabOk c.1 (S pre.length).1 n ∧ c.2.1 = (S pre.length).2) (us0, 1, tl) rfl hRg (small_range (by omega) (by omega) (by omega) (by omega)) (by rw [rangeSize_nat]; omega) FF NN hTab.len (List.forall_mem_cons.mpr ⟨rfl, List.forall_mem_nil _⟩) ⟨hTab, hS0⟩ ?_ ?_
  · have hus0 := hTab.len
    clear FF NN hRg hTab
    rintro ⟨us, la, tla⟩ pre r tr9 u h tk own1 hr hlt hoff1 hus ⟨hT1, hla⟩ F N
    dsimp only at F N hoff1 hus hT1 hla
    have kMark := kstMark
    have hr0 : 0 ≤ r := by omega
    have hr1 : r < n := by omega
    have er : r.toNat = pre.length := by omega
    have hso := hst pre.length hlt
    obtain ⟨T, hTT⟩ : ∃ T, T = (S pre.length).1 := ⟨_, rfl⟩
    rw [← hTT] at hT1 hso
    dsimp only [kstB] at F
    simp only [List.cons_append, List.append_assoc] at N
    (try dsimp only); (try k_fold)
    (repeat' ((fail_if_success (with_reducible show wpAny _ _ (execs (Stmt.If _ _ _ _ :: _) _) _ _ _)); first | ((with_reducible show wpAny _ _ (subscriptTail (PySem.Expr.Name (Str.ofString "table") _) _ (Value.ref _) (Value.int _ _)) _ _ _); refine row_item (by assumption) (by k_mem) (by first | assumption | omega) (by first | assumption | omega) (by first | assumption | omega) ?_) | ((with_reducible show wpAny _ _ (subscriptTail _ _ (Value.ref (List.getD _ _ _)) (Value.int _ _)) _ _ _); refine cell_item (by assumption) (by intro p9 hp9; have hp8 : List.Mem p9 (rowsLed _ _ _) := hp9; repeat (first | exact List.mem_append_left _ hp8 | exact List.mem_append_right _ hp8 | refine List.Mem.tail _ ?_ | refine List.mem_append_left _ ?_)) (by assumption) (by assumption) (by assumption) (by first | assumption | omega) (by first | assumption | omega) (by first | assumption | omega) (by first | assumption | omega) ?_; intro _) | (k_unfold; (try dsimp only)) | walk1 | (dsimp only; walk1) | (leave1; try dsimp only)))
    dsimp only
    rename Fr g L _ _ => FF
    rename News g L _ _ => NN
    have hms : ∀ q ∈ own, q ∈ (TB, listOf (Rs.map Value.ref).toArray kT) :: (rowsLed Rs ks us ++ (own ++ own1)) := fun q hq => .tail _ (List.mem_append_right _ (List.mem_append_left _ hq))
    refine cutF (σ := Unit) (fun _ => (TB, listOf (Rs.map Value.ref).toArray kT) :: (rowsLed Rs ks us ++ (own ++ own1))) (fun _ => []) [] (fun _ => True) FF NN ?_ ?_
    · have hkeep := hT1
      clear hT1
      (repeat' ((fail_if_success (with_reducible show wpAny _ _ (eval (PySem.Expr.ListComp _ _ _ _) _) _ _ _)); (fail_if_success (with_reducible show wpAny _ _ (subscriptTail (PySem.Expr.Name (Str.ofString "tree") _) (PySem.Expr.Slice _ _ _ _) _ _) _ _ _)); (fail_if_success (with_reducible show LCg.CompSrc _ _ _ _ _ _ _ _ _ _ _ _ _ _)); (fail_if_success (with_reducible show LCg.CompRest _ _ _ _ _ _ _ _ _ _ _ _ _ _ _ _ _ _ _)); (fail_if_success (with_reducible show wpAny _ _ (PySem.call (Value.ref 170) _) _ _ _)); (fail_if_success (with_reducible show Stop _)); (fail_if_success (with_reducible show wpAny _ _ (exec (Stmt.For _ _ _ _ _) _) _ _ _)); (fail_if_success (with_reducible show InvEndN _ _ _ _ _ _ _)); first | ((with_reducible show wpAny _ _ (subscriptTail (PySem.Expr.Subscript _ _ _) _ (Value.ref _) (Value.int _ _)) _ _ _); refine tup_at (by first | assumption | exact IsTup.keeps (by assumption) (Fr.keep (by assumption))) (by decide) (by decide) rfl ?_) | ((with_reducible show wpAny _ _ (callWith _ (Value.ref _) _ _ _) _ _ _); refine callWith_K (by k_asm) (by k_is) ?_; (try dsimp only [List.nil_append, List.cons_append])) | (k_unfold; (try dsimp only)) | walk1 | (dsimp only; walk1) | (leave1; try dsimp only)))
      · rename Fr g L _ _ => FF
        rename News g L _ _ => NN
        rename 1 < r => hrp
        refine LCg.ListComp_U FF (by with_unfolding_all rfl) (by decide) (by rfl) (by decide) (by rfl) ?_
        (repeat' ((fail_if_success (with_reducible show wpAny _ _ (eval (PySem.Expr.ListComp _ _ _ _) _) _ _ _)); (fail_if_success (with_reducible show wpAny _ _ (subscriptTail (PySem.Expr.Name (Str.ofString "tree") _) (PySem.Expr.Slice _ _ _ _) _ _) _ _ _)); (fail_if_success (with_reducible show LCg.CompSrc _ _ _ _ _ _ _ _ _ _ _ _ _ _)); (fail_if_success (with_reducible show LCg.CompRest _ _ _ _ _ _ _ _ _ _ _ _ _ _ _ _ _ _ _)); (fail_if_success (with_reducible show wpAny _ _ (PySem.call (Value.ref 170) _) _ _ _)); (fail_if_success (with_reducible show Stop _)); (fail_if_success (with_reducible show wpAny _ _ (exec (Stmt.For _ _ _ _ _) _) _ _ _)); (fail_if_success (with_reducible show InvEndN _ _ _ _ _ _ _)); first | ((with_reducible show wpAny _ _ (subscriptTail (PySem.Expr.Subscript _ _ _) _ (Value.ref _) (Value.int _ _)) _ _ _); refine tup_at (by first | assumption | exact IsTup.keeps (by assumption) (Fr.keep (by assumption))) (by decide) (by decide) rfl ?_) | ((with_reducible show wpAny _ _ (callWith _ (Value.ref _) _ _ _) _ _ _); refine callWith_K (by k_asm) (by k_is) ?_; (try dsimp only [List.nil_append, List.cons_append])) | (k_unfold; (try dsimp only)) | walk1 | (dsimp only; walk1) | (leave1; try dsimp only)))
        refine kmk_slice (its := (Ts.map Value.ref).toArray) FF NN ⟨_, (NN _ (hms _ hTR)).1, rfl, _, rfl⟩ (by kmk_part) (by kmk_part) (fun D h2 F2 N2 l2 => ?_) (by with_unfolding_all rfl) (by kmk_pure) (by rw [List.size_toArray, List.length_map, hTl, PySem.sizeLine_eq]; omega)
        rw [pick_upto hr0, ← List.map_take] at N2
        clear NN FF
        have htk : (Ts.take r.toNat).length = r.toNat := by rw [List.length_take]; omega
        have hsz2 : ((Ts.take r.toNat).map Value.ref).toArray.size = r.toNat := by rw [List.size_toArray, List.length_map, htk]
        refine LCg.CompSrc.ledger (by rfl) F2 N2 (.head _) (by rw [hsz2, PySem.sizeLine_eq]; omega) ?_
        intro g'
        obtain ⟨fx, hfx⟩ : ∃ fx : Led, fx = (D, listOf ((Ts.take r.toNat).map Value.ref).toArray 0) :: (TB, listOf (Rs.map Value.ref).toArray kT) :: (rowsLed Rs ks us ++ (own ++ own1)) := ⟨_, rfl⟩
        rw [hsz2]
        have hof2 : ∀ q ∈ own, q ∈ fx := fun q hq => by rw [hfx]; exact .tail _ (hms q hq)
        refine comp_ind (fun i ys nw => nw = fx ∧ IntsAre ys ((tr.map (·.2)).take i)) r.toNat ?_ ?_ _ 0 [] _ (Nat.zero_add _) ⟨hfx.symm, .nil⟩
        · clear F2 N2 l2
          rintro i ys nw hi ⟨rfl, hI⟩ v I oI C oC Dq mq h3 tk3 E9 hv hC hx F N off ne
          have hi2 : i < tr.length := by omega
          obtain ⟨t1, u1, hT⟩ := htup _ (fun q hq => (N q (.tail _ (.tail _ (.tail _ (hof2 q hq))))).1) i hi2
          have hv2 : v = .ref (Ts.getD i 0) := by
            rw [List.getElem?_toArray, List.getElem?_map, List.getElem?_take_of_lt hi, List.getElem?_eq_getElem (by omega)] at hv
            rw [List.getD_eq_getElem?_getD, List.getElem?_eq_getElem (by omega)]
            exact (Option.some.inj hv).symm
          subst hv2
          have hgi := hgt i hi2
          (repeat' ((fail_if_success (with_reducible show wpAny _ _ (eval (PySem.Expr.ListComp _ _ _ _) _) _ _ _)); (fail_if_success (with_reducible show wpAny _ _ (subscriptTail (PySem.Expr.Name (Str.ofString "tree") _) (PySem.Expr.Slice _ _ _ _) _ _) _ _ _)); (fail_if_success (with_reducible show LCg.CompSrc _ _ _ _ _ _ _ _ _ _ _ _ _ _)); (fail_if_success (with_reducible show LCg.CompRest _ _ _ _ _ _ _ _ _ _ _ _ _ _ _ _ _ _ _)); (fail_if_success (with_reducible show wpAny _ _ (PySem.call (Value.ref 170) _) _ _ _)); (fail_if_success (with_reducible show Stop _)); (fail_if_success (with_reducible show wpAny _ _ (exec (Stmt.For _ _ _ _ _) _) _ _ _)); (fail_if_success (with_reducible show InvEndN _ _ _ _ _ _ _)); first | ((with_reducible show wpAny _ _ (subscriptTail (PySem.Expr.Subscript _ _ _) _ (Value.ref _) (Value.int _ _)) _ _ _); refine tup_at (by first | assumption | exact IsTup.keeps (by assumption) (Fr.keep (by assumption))) (by decide) (by decide) rfl ?_) | ((with_reducible show wpAny _ _ (callWith _ (Value.ref _) _ _ _) _ _ _); refine callWith_K (by k_asm) (by k_is) ?_; (try dsimp only [List.nil_append, List.cons_append])) | (k_unfold; (try dsimp only)) | walk1 | (dsimp only; walk1) | (leave1; try dsimp only)))
          rename Fr g L _ _ => FF
          rename News g L _ _ => NN
          refine LCg.CompEnd.intro FF NN nw (fun _ h => h) off (.inr ⟨_, by rw [hfx]; exact .head _, rfl, _, rfl⟩) ⟨rfl, ?_⟩
          rw [take_snoc hi2]
          exact ints_snoc hI
        · rintro ys nw ⟨rfl, hI⟩
          intro D2 h3 tk3 F N off
          dsimp only
          (repeat' ((fail_if_success (with_reducible show wpAny _ _ (eval (PySem.Expr.ListComp _ _ _ _) _) _ _ _)); (fail_if_success (with_reducible show wpAny _ _ (subscriptTail (PySem.Expr.Name (Str.ofString "tree") _) (PySem.Expr.Slice _ _ _ _) _ _) _ _ _)); (fail_if_success (with_reducible show LCg.CompSrc _ _ _ _ _ _ _ _ _ _ _ _ _ _)); (fail_if_success (with_reducible show LCg.CompRest _ _ _ _ _ _ _ _ _ _ _ _ _ _ _ _ _ _ _)); (fail_if_success (with_reducible show wpAny _ _ (PySem.call (Value.ref 170) _) _ _ _)); (fail_if_success (with_reducible show Stop _)); (fail_if_success (with_reducible show wpAny _ _ (exec (Stmt.For _ _ _ _ _) _) _ _ _)); (fail_if_success (with_reducible show InvEndN _ _ _ _ _ _ _)); first | ((with_reducible show wpAny _ _ (subscriptTail (PySem.Expr.Subscript _ _ _) _ (Value.ref _) (Value.int _ _)) _ _ _); refine tup_at (by first | assumption | exact IsTup.keeps (by assumption) (Fr.keep (by assumption))) (by decide) (by decide) rfl ?_) | ((with_reducible show wpAny _ _ (callWith _ (Value.ref _) _ _ _) _ _ _); refine callWith_K (by k_asm) (by k_is) ?_; (try dsimp only [List.nil_append, List.cons_append])) | (k_unfold; (try dsimp only)) | walk1 | (dsimp only; walk1) | (leave1; try dsimp only)))
          have hbl : ((tr.map (·.2)).take r.toNat).length = r.toNat := by rw [List.length_take, List.length_map]; omega
          refine Pure.call (step_ok D2 ys ((tr.map (·.2)).take r.toNat)) B' F X' T' N rfl (by show _ < _; decide) (by show _ < _; decide) ⟨⟨_, (N _ (.head _)).1, rfl, _, rfl⟩, hI, ?_, by rw [hbl]; omega, by rw [hbl]; omega⟩ ?_
          · intro x hx
            obtain ⟨q, hq, rfl⟩ := List.mem_map.mp (List.mem_of_mem_take hx)
            obtain ⟨j, hj, rfl⟩ := List.getElem_of_mem hq
            have h5 := hgt j hj
            rw [List.getD_eq_getElem?_getD, List.getElem?_eq_getElem hj] at h5
            exact h5.2.2
          · rintro v h4 tk4 st4 ⟨t4, rfl⟩ F4 N4
            clear st4 F N
            rw [show stepF ((tr.map (·.2)).take r.toNat) = T r.toNat r.toNat by rw [er]; exact (hso.top (by omega)).symm]
            (repeat' ((fail_if_success (with_reducible show wpAny _ _ (eval (PySem.Expr.ListComp _ _ _ _) _) _ _ _)); (fail_if_success (with_reducible show wpAny _ _ (subscriptTail (PySem.Expr.Name (Str.ofString "tree") _) (PySem.Expr.Slice _ _ _ _) _ _) _ _ _)); (fail_if_success (with_reducible show LCg.CompSrc _ _ _ _ _ _ _ _ _ _ _ _ _ _)); (fail_if_success (with_reducible show LCg.CompRest _ _ _ _ _ _ _ _ _ _ _ _ _ _ _ _ _ _ _)); (fail_if_success (with_reducible show wpAny _ _ (PySem.call (Value.ref 170) _) _ _ _)); (fail_if_success (with_reducible show Stop _)); (fail_if_success (with_reducible show wpAny _ _ (exec (Stmt.For _ _ _ _ _) _) _ _ _)); (fail_if_success (with_reducible show InvEndN _ _ _ _ _ _ _)); first | ((with_reducible show wpAny _ _ (subscriptTail (PySem.Expr.Subscript _ _ _) _ (Value.ref _) (Value.int _ _)) _ _ _); refine tup_at (by first | assumption | exact IsTup.keeps (by assumption) (Fr.keep (by assumption))) (by decide) (by decide) rfl ?_) | ((with_reducible show wpAny _ _ (callWith _ (Value.ref _) _ _ _) _ _ _); refine callWith_K (by k_asm) (by k_is) ?_; (try dsimp only [List.nil_append, List.cons_append])) | (k_unfold; (try dsimp only)) | walk1 | (dsimp only; walk1) | (leave1; try dsimp only)))
            all_goals (try (exfalso; omega; done))
            dsimp only
            rename Fr g L _ _ => FF
            rename News g L _ _ => NN
            refine Hand.mk () FF NN ?_ (List.forall_mem_nil _) (fun _ _ _ => rfl) True.intro
            intro p hp
            exact .tail _ (by rw [hfx]; exact .tail _ hp)
      · exact Hand.mk () (by assumption) (by assumption) (fun p hp => hp) (List.forall_mem_nil _) (fun _ _ _ => rfl) True.intro
    · intro c u7 h7 tk7 _ F7 N7
      clear FF NN F N
      have hlo := last_ok (by rw [← hS]; exact hst) pre.length hlt
      rw [← hS, ← hla] at hlo
      have F8 := Fr.kst [(Str.ofString "r", .int r tr9), (Str.ofString "top", .int (T r.toNat r.toNat) _), (Str.ofString "last", .int la tla), (Str.ofString "table", .ref TB)] F7 (List.forall_mem_cons.mpr ⟨rfl, List.forall_mem_cons.mpr ⟨rfl, List.forall_mem_cons.mpr ⟨rfl, List.forall_mem_cons.mpr ⟨rfl, List.forall_mem_nil _⟩⟩⟩⟩)
      refine wpAny_execs_cons (blk_ok (own := own ++ own1) (t := t) B' F8 X' T' N7 hT1 hR hk hn hnd hTB ?_ hft (fun q hq => List.mem_append_left _ (ht q hq)) hr0 hr1 rfl (fun x y hx hy => hso.bd x y hx hy) (fun _ => hlo.1) (by omega) (by omega) ?_ hE ?_)
      · intro p hp
        rcases List.mem_append.mp hp with hp | hp
        · exact hoff p hp
        · exact own_off hoff1 (by omega) (by omega) p hp
      · intro h0 x y hx hxn hy hyn
        rw [er] at hx hy ⊢
        rw [hla]
        exact hso.ex (by omega) x y hx hxn hy hyn
      · intro us' h9 tk9 u9 hT9 F9 N9
        dsimp only
        clear F7 F8 N7
        (repeat' ((fail_if_success (with_reducible show wpAny _ _ (eval (PySem.Expr.ListComp _ _ _ _) _) _ _ _)); (fail_if_success (with_reducible show wpAny _ _ (subscriptTail (PySem.Expr.Name (Str.ofString "tree") _) (PySem.Expr.Slice _ _ _ _) _ _) _ _ _)); (fail_if_success (with_reducible show LCg.CompSrc _ _ _ _ _ _ _ _ _ _ _ _ _ _)); (fail_if_success (with_reducible show LCg.CompRest _ _ _ _ _ _ _ _ _ _ _ _ _ _ _ _ _ _ _)); (fail_if_success (with_reducible show wpAny _ _ (PySem.call (Value.ref 170) _) _ _ _)); (fail_if_success (with_reducible show Stop _)); (fail_if_success (with_reducible show wpAny _ _ (exec (Stmt.For _ _ _ _ _) _) _ _ _)); (fail_if_success (with_reducible show InvEndN _ _ _ _ _ _ _)); first | ((with_reducible show wpAny _ _ (subscriptTail (PySem.Expr.Subscript _ _ _) _ (Value.ref _) (Value.int _ _)) _ _ _); refine tup_at (by first | assumption | exact IsTup.keeps (by assumption) (Fr.keep (by assumption))) (by decide) (by decide) rfl ?_) | ((with_reducible show wpAny _ _ (callWith _ (Value.ref _) _ _ _) _ _ _); refine callWith_K (by k_asm) (by k_is) ?_; (try dsimp only [List.nil_append, List.cons_append])) | (k_unfold; (try dsimp only)) | walk1 | (dsimp only; walk1) | (leave1; try dsimp only)))
        rename Fr g L _ _ => FF
        rename News g L _ _ => NN
        refine kst_end (us', T r.toNat r.toNat, _) FF NN ?hn ?ho ?ha hT9.len (List.forall_mem_cons.mpr ⟨rfl, List.forall_mem_nil _⟩) ?hr ?hp
        case hn =>
          intro p hp
          rcases List.mem_cons.mp hp with rfl | hp
          · exact .head _
          · rcases List.mem_append.mp hp with hp | hp
            · exact .tail _ (List.mem_append_left _ hp)
            · exact .tail _ (List.mem_append_right _ (List.mem_append_left _ hp))
        case ho => exact fun p hp => .tail _ (List.mem_append_right _ (List.mem_append_right _ hp))
        case ha => exact led_fst (by omega) (by rw [hT9.len]; omega) (by omega)
        case hr =>
          intro z h1 h2 h3
          have h2 : z ≠ Str.ofString "last" := h2 _ (.head _)
          have h4 := h3
          simp only [List.contains_cons, List.contains_nil, Bool.or_false, Bool.or_eq_false_iff, beq_eq_false_iff_ne, ne_eq] at h3
          have h5 : [Str.ofString "j", Str.ofString "cross", Str.ofString "rest"].contains z = false := by simp [h3.2.2.1, h3.2.2.2.1, h3.2.2.2.2]
          have h6 : ([] : List Str).contains z = false := rfl
          simp only [kstB, h1, h2, h3, h4, h5, h6, if_false, Bool.false_eq_true]
          by_cases ht : z = Str.ofString "table"
          · have h7 : z ≠ Str.ofString "tree" := by rw [ht]; decide
            simp only [if_pos ht, if_neg h7]
          · simp only [if_neg ht]
        case hp =>
          rw [List.length_append]
          refine ⟨?_, ?_⟩
          · show TabOk us' (S (pre.length + 1)).1 n
            have e : (S (pre.length + 1)).1 = newT T r.toNat la := by rw [hS, stT, ← hS, ← hTT, ← hla, er]
            rw [e]; exact hT9
          · show T r.toNat r.toNat = (S (pre.length + 1)).2
            rw [hS, stT, ← hS, ← hTT, er]
  · rintro ⟨us, la, tla⟩ u h tk hus ⟨hT1, hla⟩ F N
    dsimp only at F N hus hT1 hla
    dsimp only [kstB] at F
    dsimp only
    (repeat' ((fail_if_success (with_reducible show wpAny _ _ (eval (PySem.Expr.ListComp _ _ _ _) _) _ _ _)); (fail_if_success (with_reducible show wpAny _ _ (subscriptTail (PySem.Expr.Name (Str.ofString "tree") _) (PySem.Expr.Slice _ _ _ _) _ _) _ _ _)); (fail_if_success (with_reducible show LCg.CompSrc _ _ _ _ _ _ _ _ _ _ _ _ _ _)); (fail_if_success (with_reducible show LCg.CompRest _ _ _ _ _ _ _ _ _ _ _ _ _ _ _ _ _ _ _)); (fail_if_success (with_reducible show wpAny _ _ (PySem.call (Value.ref 170) _) _ _ _)); (fail_if_success (with_reducible show Stop _)); (fail_if_success (with_reducible show wpAny _ _ (exec (Stmt.For _ _ _ _ _) _) _ _ _)); (fail_if_success (with_reducible show InvEndN _ _ _ _ _ _ _)); first | ((with_reducible show wpAny _ _ (subscriptTail (PySem.Expr.Subscript _ _ _) _ (Value.ref _) (Value.int _ _)) _ _ _); refine tup_at (by first | assumption | exact IsTup.keeps (by assumption) (Fr.keep (by assumption))) (by decide) (by decide) rfl ?_) | ((with_reducible show wpAny _ _ (callWith _ (Value.ref _) _ _ _) _ _ _); refine callWith_K (by k_asm) (by k_is) ?_; (try dsimp only [List.nil_append, List.cons_append])) | (k_unfold; (try dsimp only)) | walk1 | (dsimp only; walk1) | (leave1; try dsimp only)))
    exact hret _ _ _ _ F N fun q hq => .tail _ (List.mem_append_right _ hq)
end Mine

-- L1
open PySem PySem.W PyProof.Rows PyProof
set_option Elab.async false
set_option maxRecDepth 100000
set_option maxHeartbeats 8000000
set_option pp.deepTerms false
set_option pp.deepTerms.threshold 6
set_option rowWalk.seconds 0
namespace Mine

theorem News.addLed {h₀ h h' : Heap} {L : Addr} {m : Str → Option Value} {led news : Led} (F : Fr h₀ L h m) (N : News h₀ L h' news) (hl : ∀ q ∈ led, h.get? q.1 = none ∧ h'.get? q.1 = some q.2) : News h₀ L h' (led ++ news) := fun p hp => by
  rcases List.mem_append.mp hp with hp | hp
  · exact News.addD F N (hl p hp).1 (hl p hp).2 (p.1, p.2) (.head _)
  · exact N p hp
theorem tab_ne_cell {ps : Array Value} {o : Obj} {c : Option Value} (h : o.data = .cell c) (e : tabObj ps = o) : False := by
  rw [← e] at h; cases h
theorem notin2 {a b c : Addr} (h1 : a ≠ b) (h2 : a ≠ c) : a ∉ [b, c] := fun h => by
  rcases List.mem_cons.mp h with h | h
  · exact h1 h
  · exact h2 (List.mem_singleton.mp h)
theorem law1 : PySem.Challenge.rw_rs0157_01.Holds := by
  refine hd1 ?_
  w_top off
  k_go0
  (all_goals try k_fold)
  (repeat' ((fail_if_success (with_reducible show wpAny _ _ (PySem.call (Value.ref 128) _) _ _ _)); (fail_if_success (with_reducible show wpAny _ _ (PySem.call (Value.ref 135) _) _ _ _)); (fail_if_success (with_reducible show wpAny _ _ (execs (Stmt.Assign [PySem.Expr.Name (Str.ofString "names") _] _ _ :: _) _) _ _ _)); first | ((with_reducible show wpAny _ _ (callWith _ (Value.ref _) _ _ _) _ _ _); refine callWith_K (by k_asm) (by k_is) ?_; (try dsimp only [List.nil_append, List.cons_append])) | (k_unfold; (try dsimp only)) | walk1 | (dsimp only; walk1) | (leave1; try dsimp only)))
  rename Frag.In _ _ => X'
  rename Below _ _ _ _ => B'
  rename Top topProg _ _ _ _ _ => T'
  rename News _ _ _ _ => N0
  rename Fr _ _ _ _ => F0
  rename IntsAre _ (List.take 63 _) => hI0
  rename (List.take 63 _).length = min 63 _ => hC0
  rename Obj.data _ = Data.cell none => hcell
  rename CodeHd _ _ _ => hCd
  refine Pure.call (ways_ok _ _ _) B' F0 X' T' N0 rfl (by show _ < _; (try dsimp only); decide) (by show _ < _; (try dsimp only); decide) ⟨⟨_, (N0 _ (.head _)).1, rfl, _, rfl⟩, hI0, by rw [hC0]; omega⟩ ?_
  rintro v h2 tk2 st2 ⟨D, ws, led, rfl, hgw, hled, hway⟩ F2 N2
  have N3 := News.addLed F0 N2 hled
  have hlo := fun q (hq : q ∈ led) => News.neN N0 (hled q hq).1
  clear N2 st2 hled N0 F0
  (repeat' ((fail_if_success (with_reducible show wpAny _ _ (PySem.call (Value.ref 128) _) _ _ _)); (fail_if_success (with_reducible show wpAny _ _ (PySem.call (Value.ref 135) _) _ _ _)); (fail_if_success (with_reducible show wpAny _ _ (execs (Stmt.Assign [PySem.Expr.Name (Str.ofString "names") _] _ _ :: _) _) _ _ _)); first | ((with_reducible show wpAny _ _ (callWith _ (Value.ref _) _ _ _) _ _ _); refine callWith_K (by k_asm) (by k_is) ?_; (try dsimp only [List.nil_append, List.cons_append])) | (k_unfold; (try dsimp only)) | walk1 | (dsimp only; walk1) | (leave1; try dsimp only)))
  rename Fr _ _ _ _ => FF
  rename News _ _ _ _ => NN
  refine Pure.call (words_ok _ ws) B' FF X' T' NN rfl (by show _ < _; (try dsimp only); decide) (by show _ < _; (try dsimp only); decide) ⟨hway _ fun q hq => (NN q (List.mem_append_left _ hq)).1, hgw⟩ ?_
  rintro v h4 tk4 st4 ⟨W, o, rfl, hW0, hW1, wv, wk, rfl, hwl, hwv⟩ F4 N4
  have N5 := News.addD FF N4 hW0 hW1
  have hwo := News.neN NN hW0
  clear N4 st4 hW0 hW1 NN FF
  (repeat' ((fail_if_success (with_reducible show wpAny _ _ (PySem.call (Value.ref 128) _) _ _ _)); (fail_if_success (with_reducible show wpAny _ _ (PySem.call (Value.ref 135) _) _ _ _)); (fail_if_success (with_reducible show wpAny _ _ (execs (Stmt.Assign [PySem.Expr.Name (Str.ofString "names") _] _ _ :: _) _) _ _ _)); first | ((with_reducible show wpAny _ _ (callWith _ (Value.ref _) _ _ _) _ _ _); refine callWith_K (by k_asm) (by k_is) ?_; (try dsimp only [List.nil_append, List.cons_append])) | (k_unfold; (try dsimp only)) | walk1 | (dsimp only; walk1) | (leave1; try dsimp only)))
  rename Fr _ _ _ _ => FF
  rename News _ _ _ _ => NN
  rename Heap.IsList (ghostOf _ _) _ _ => hScr
  have hEn : ∀ q ∈ led, q.1 ≠ 172 ∧ q.1 ≠ 44 ∧ q.1 ≠ 51 := fun q hq => ⟨Ne.symm (hlo q hq _ (.tail _ (.tail _ (.tail _ (.tail _ (.head _)))))), Ne.symm (hlo q hq _ (.tail _ (.tail _ (.tail _ (.head _))))), Ne.symm (hlo q hq _ (.tail _ (.tail _ (.head _))))⟩
  have hlc := fun q (hq : q ∈ led) => Ne.symm (hlo q hq _ (.tail _ (.head _)))
  have hW172 := Ne.symm (hwo _ (List.mem_append_right _ (.tail _ (.tail _ (.tail _ (.tail _ (.head _)))))))
  have hW44 := Ne.symm (hwo _ (List.mem_append_right _ (.tail _ (.tail _ (.tail _ (.head _))))))
  have hW51 := Ne.symm (hwo _ (List.mem_append_right _ (.tail _ (.tail _ (.head _)))))
  have hWc := Ne.symm (hwo _ (List.mem_append_right _ (.tail _ (.head _))))
  have hc172 := News.ne2 NN NN (.tail _ (List.mem_append_right _ (.tail _ (.tail _ (.tail _ (.tail _ (.head _))))))) (.tail _ (List.mem_append_right _ (.tail _ (.head _)))) fun e => tab_ne_cell hcell e
  have hc44 := News.ne2 NN NN (.tail _ (List.mem_append_right _ (.tail _ (.tail _ (.tail _ (.head _)))))) (.tail _ (List.mem_append_right _ (.tail _ (.head _)))) fun e => tab_ne_cell hcell e
  have hc51 := News.ne2 NN NN (.tail _ (List.mem_append_right _ (.tail _ (.tail _ (.head _))))) (.tail _ (List.mem_append_right _ (.tail _ (.head _)))) fun e => tab_ne_cell hcell e
  clear hlo hwo
  refine' law1_pre (ws := ws) (D := D) (W := W) (wk := wk) (wv := wv) (ow := (W, listOf wv.toArray wk) :: (led ++ [(44, tabObj #[]), (51, tabObj #[])])) B' (Fr.kst _ FF (List.forall_mem_cons.mpr ⟨rfl, List.forall_mem_cons.mpr ⟨rfl, List.forall_mem_cons.mpr ⟨rfl, List.forall_mem_nil _⟩⟩⟩)) X' T' ?N hcell hgw (.head _) hwv ?way ?off ?ot ?hE hCd ?next
  case N =>
    intro q hq
    refine NN q ?_
    rcases List.mem_cons.mp hq with rfl | hq
    · exact .tail _ (List.mem_append_right _ (.tail _ (.head _)))
    · rcases List.mem_cons.mp hq with rfl | hq
      · exact .tail _ (List.mem_append_right _ (.tail _ (.tail _ (.tail _ (.tail _ (.head _))))))
      · rcases List.mem_cons.mp hq with rfl | hq
        · exact .head _
        · rcases List.mem_append.mp hq with hq | hq
          · exact .tail _ (List.mem_append_left _ hq)
          · rcases List.mem_cons.mp hq with rfl | hq
            · exact .tail _ (List.mem_append_right _ (.tail _ (.tail _ (.tail _ (.head _)))))
            · rw [List.mem_singleton.mp hq]
              exact .tail _ (List.mem_append_right _ (.tail _ (.tail _ (.head _))))
  case way => exact fun h hh => hway h fun q hq => hh q (.tail _ (List.mem_append_left _ hq))
  case off => exact List.forall_mem_cons.mpr ⟨hc172, List.forall_mem_cons.mpr ⟨hWc, List.forall_mem_append.mpr ⟨hlc, List.forall_mem_cons.mpr ⟨hc44, List.forall_mem_cons.mpr ⟨hc51, List.forall_mem_nil _⟩⟩⟩⟩⟩
  case ot => exact List.forall_mem_cons.mpr ⟨hW172, List.forall_mem_append.mpr ⟨fun q hq => (hEn q hq).1, List.forall_mem_cons.mpr ⟨show (44 : Nat) ≠ 172 by decide, List.forall_mem_cons.mpr ⟨show (51 : Nat) ≠ 172 by decide, List.forall_mem_nil _⟩⟩⟩⟩
  case hE => passes_own
  case next =>
    intro h5 tk5 NM onm t kN ps F N hnm hNM hofN
    clear FF NN
    have hlen := hgw.len
    refine' law1_tree (ow := (172, tabObj ps) :: (W, listOf wv.toArray wk) :: led) (t := [(44, tabObj #[]), (51, tabObj #[])]) B' F X' T' N hnm hNM hgw (TabsOn.empty _) (.tail _ (.head _)) hwv (fun h hh => hway h fun q hq => hh q (.tail _ (.tail _ hq))) hofN ?hnt ?hE ?next
    case hnt => exact List.forall_mem_cons.mpr ⟨show (172 : Nat) ∉ [44, 51] by decide, List.forall_mem_cons.mpr ⟨notin2 hW44 hW51, fun q hq => notin2 (hEn q hq).2.1 (hEn q hq).2.2⟩⟩
    case hE => passes_own
    case next =>
      intro h6 tk6 u TR nv kn kt Ts tl t' F6 N6 st hTN hTL
      clear F N hofN
      refine' law1_tab (own := (TR, listOf (Ts.map Value.ref).toArray kt) :: (tl ++ t')) B' (Fr.kst _ F6 (List.forall_mem_cons.mpr ⟨rfl, List.forall_mem_cons.mpr ⟨rfl, List.forall_mem_nil _⟩⟩)) X' T' ?N hnm (by rw [st.lenN]; omega) ?hE ?next
      case N =>
        intro q hq
        refine N6 q ?_
        rcases List.mem_cons.mp hq with rfl | hq
        · exact .tail _ (.head _)
        · rcases List.mem_cons.mp hq with rfl | hq
          · exact .tail _ (.tail _ (.head _))
          · rcases List.mem_cons.mp hq with rfl | hq
            · exact .head _
            · exact .tail _ (.tail _ (.tail _ hq))
      case hE => passes_own
      case next =>
        intro h7 tk7 u7 TB kT Rs ks us F7 N7 hTab hR hk hnd hoff hTBo
        clear F6 N6
        have htup := fun (h : Heap) (hh : ∀ q ∈ (TR, listOf (Ts.map Value.ref).toArray kt) :: (tl ++ t'), h.get? q.1 = some q.2) => st.tup h fun q hq => hh q (.tail _ (List.mem_append_left _ hq))
        refine' law1_mid (ws := ws) (n := nv.length) B' F7 X' T' N7 hnm hTab hR hk hnd hoff hTBo rfl (by rw [st.lenN]; exact st.nvs) hgw st.lenN.symm hScr (by assumption) (by omega) (.head _) st.lenT htup ?hE ?next
        case hE => passes_own
        case next =>
          intro h8 tk8 u8 tl8 Rs8 ks8 us8 F8 N8 hTab8 hR8 hk8 hnd8 hoff8
          clear F7 N7 hTab hR hk hnd hoff
          have hft := st.fil (by omega)
          have hn : nv.length = (treeW ws).length + 1 := by rw [treeW_len, st.lenN]
          have hok := treeOk_all (good_mem (treeW_good hgw) (by rw [treeW_len]; exact hlen))
          rw [← hn] at hok
          refine' law1_elim (tr := treeW ws) (t := t') B' F8 X' T' N8 hTab8 hR8 hk8 (by rw [st.lenN]; omega) hnd8 (hoff8 _ (.head _)) (fun q hq => hoff8 q (.tail _ hq)) hft (fun q hq => .tail _ (List.mem_append_right _ hq)) (.head _) (by rw [treeW_len]; exact st.lenT) (treeW_good hgw) (fun h hh j hj => ?tup) hn.symm hok ?hE ?fin
          case tup =>
            rw [treeW_len] at hj
            rw [treeW_at]
            exact htup h hh j hj
          case hE => passes_own
          case fin =>
            intro h9 tk9 m9 nx F9 N9 hs
            obtain ⟨⟨p1, h44⟩, ⟨p2, h51⟩⟩ := hft.tabs
            refine ⟨?_, ⟨p2, (N9 _ (hs _ (.tail _ (List.mem_append_right _ h51)))).1⟩, ⟨p1, (N9 _ (hs _ (.tail _ (List.mem_append_right _ h44)))).1⟩, ⟨ps, (N9 _ (hs _ (.tail _ (List.mem_append_left _ (st.sub _ (.head _)))))).1⟩, True.intro⟩
            dsimp only
            k_end; wrow_close
end Mine

set_option maxRecDepth 100000 in
set_option maxHeartbeats 8000000 in
theorem PySem.Challenge.cw_rs0157_01_holds : PySem.Challenge.rw_rs0157_01.Holds := by
  exact Mine.law1
