import PyProof.Rows.All
import Wide.All
import OpenK.AllK
import Wide.FinOn
import PySem.Challenge.RW_vq0012_01

section
open PySem PySem.W PySem.Calls PyProof.Rows
set_option Elab.async false
set_option maxRecDepth 100000
set_option linter.unusedVariables false
set_option maxHeartbeats 4000000
namespace Mine
-- STACKS WITHOUT CODEC FRAMES
def okC : Code → Bool
  | .builtin id _ => !Builtin.Bytes.decodersThatHold.contains id && !(["bytearray.__contains__", "bytearray.__mod__", "bytearray.__rmod__", "_struct.pack_into.held", "bytearray.find.held"].contains id)
  | _ => true
def Cln (l : List (Code × Pos)) : Prop := ∀ x ∈ l, okC x.1 = true
/-- on a stack without codec frames -/
def wpC {α : Type} (M : Model) (A : Around) (t : Sem α) (Q : α → Shared → Prop) (E : Value → Shared → Prop) (s : Shared) : Prop :=
  ∀ Γ p, Γ.In A → okC Γ.code = true → Cln Γ.below → Sem.wp M Γ t (fun a _ s' => Q a s') (fun e _ s' => E e s') p s
section
variable {α β : Type} {M : Model} {A : Around} {E : Value → Shared → Prop} {s : Shared}
theorem wpC_any {t : Sem α} {Q : α → Shared → Prop} (h : wpAny M A t Q E s) : wpC M A t Q E s := fun Γ p hΓ _ _ => h Γ p hΓ
theorem wpC_mono {t : Sem α} {Q Q' : α → Shared → Prop} {E' : Value → Shared → Prop} (h : wpC M A t Q E s) (hQ : ∀ a s, Q a s → Q' a s) (hE : ∀ e s, E e s → E' e s) : wpC M A t Q' E' s :=
  fun Γ p hΓ h1 h2 => Sem.wp_mono M Γ t (fun a _ s => hQ a s) (fun e _ s => hE e s) p s (h Γ p hΓ h1 h2)
theorem wpC_bind {m : Sem α} {f : α → Sem β} {Q : β → Shared → Prop} (h : wpC M A m (fun a s' => wpC M A (f a) Q E s') E s) : wpC M A (m >>= f) Q E s := fun Γ p hΓ h1 h2 => by
  rw [Sem.wp_bind']
  exact Sem.wp_mono M Γ m (fun a p' s' h' => h' Γ p' hΓ h1 h2) (fun _ _ _ h' => h') p s (h Γ p hΓ h1 h2)
theorem wpC_bindA {m : Sem α} {f : α → Sem β} {Q : β → Shared → Prop} (h : wpAny M A m (fun a s' => wpC M A (f a) Q E s') E s) : wpC M A (m >>= f) Q E s := wpC_bind (wpC_any h)
theorem wpC_pure {a : α} {Q : α → Shared → Prop} (h : Q a s) : wpC M A (pure a) Q E s := fun _ _ _ _ _ => h

-- THE HEAD ON SUCH STACKS: a thread that first looks at its stack
def guardS (t d : Sem α) : Sem α := .stack fun st => if (st.all fun x => okC x.1) = true then t else d
theorem guard_any {t dd : Sem α} {Q : α → Shared → Prop} (h : wpC M A t Q E s) (hd : wpAny M A dd Q E s) : wpAny M A (guardS t dd) Q E s := fun Γ p hΓ => by
  unfold guardS
  rw [Sem.wp_stack]
  by_cases hc : (((Γ.code, p) :: Γ.below).all fun x => okC x.1) = true
  · rw [if_pos hc]
    have q := List.all_eq_true.mp hc
    exact h Γ p hΓ (q _ List.mem_cons_self) fun x hx => q x (List.mem_cons_of_mem _ hx)
  · rw [if_neg hc]
    exact hd Γ p hΓ
theorem of_guard {t dd : Sem α} {Q : α → Shared → Prop} (h : wpAny M A (guardS t dd) Q E s) : wpC M A t Q E s := fun Γ p hΓ h1 h2 => by
  have z := h Γ p hΓ
  unfold guardS at z
  rw [Sem.wp_stack, if_pos (List.all_eq_true.mpr fun x hx => by
    rcases List.mem_cons.mp hx with rfl | hx
    · exact h1
    · exact h2 x hx)] at z
  exact z
end
/-- a thread that has one step more before it -/
theorem holdsOpenBy_step {c : ClaimW} {st st' : List Value → Thread} {defs kps : List PySem.Str} {writes : Bool}
    (hst : ∀ (w : World) vs (s : Shared), s.asleep → sstep (denote table) c.prog w (.single s (st' vs)) = .go (.single s (st vs))) (H : c.HoldsOpenBy st' defs kps writes) : c.HoldsOpenBy st defs kps writes := by
  obtain ⟨h1, h2, h3⟩ := H
  refine ⟨h1, h2, fun w => ⟨(h3 w).1, fun s hs => ?_⟩⟩
  obtain ⟨s₀, hf, hg, s₁, hT, hd, r1, r2, hC⟩ := (h3 w).2 s hs
  refine ⟨s₀, hf, hg, s₁, hT, hd, r1, r2, fun args hp hl ord ho => ?_⟩
  obtain ⟨vs, s₂, hlaid, n, o, s', hrun, rest⟩ := hC args hp hl ord ho
  refine ⟨vs, s₂, hlaid, ?_⟩
  have ha : AfterImport (opening c.prog) w s := hs
  have z : s₂.asleep := Shared.asleep_of_life ((layAllW_rest _ _ _ hlaid).2.2.2.trans (hT.2.1.trans (fence_lifeW hf))) ha.life
  cases n with
  | zero => exact absurd hrun (by simp [schedN])
  | succ n =>
    refine ⟨n, o, s', ?_, rest⟩
    unfold schedN at hrun
    rw [hst w vs s₂ z] at hrun
    exact hrun
theorem guard_step {prog : Program} {w : World} {s : Shared} {t dd : Sem PySem.Fin} (hs : s.asleep) :
    sstep (denote table) prog w (.single s ⟨guardS t dd, .builtin "claim.caller" {}, default, []⟩) = .go (.single s ⟨t, .builtin "claim.caller" {}, default, []⟩) := by
  have e : step (denote table) prog w s ⟨guardS t dd, .builtin "claim.caller" {}, default, []⟩ = .go s ⟨t, .builtin "claim.caller" {}, default, []⟩ := by
    obtain ⟨heap, gens, drawn, toks, os⟩ := s
    unfold guardS
    simp only [step]
    rw [if_pos (by decide +kernel)]
  rcases sstep_single (denote table) prog w s ⟨guardS t dd, .builtin "claim.caller" {}, default, []⟩ rfl hs with z | z
  · rw [z, e]; rfl
  · rw [e] at z; cases z
/-- the walk that the head asks for, on stacks without codec frames -/
abbrev WalkCl (q : Program) (loose : List PySem.Str) (XP : (PySem.Str → Option Value) → Heap → Prop) (YP : World → Heap → Prop) (r : RowW) (d : DefRec) : List (PySem.Str × Expr) → Prop := fun kwd =>
  ∀ (w : World) (s₀ s₁ : Shared) (mg mb : PySem.Str → Option Value), Ground q loose r.records XP w s₀ mg mb s₁.heap → YP w s₁.heap → ∀ (a : Addr) (o : Obj) (pm cd doc dV kV : Value), s₁.heap.get? a = some o →
    o.data = .func { docDef d.name d.params d.body d.scope pm cd doc with defaults := dV, kwdefaults := kV } → s₁.heap.CodeRec cd d.name → Dflts mg s₁.heap d.params kwd dV kV → mg d.name = some (.ref a) → s₁.gens = #[] →
    ∀ (args : List WData) (vals : List Value) (as : List Addr), r.claim.pre args = true → WData.layableAll args = true → ReadsAllW r.records (classAt s₀.heap) s₁.heap vals args as → WellAll w.params s₁.heap vals args → (∀ a ∈ as, (a == sysModules) = false) →
      wpC (model r.prog w) callerA (PySem.call (.ref a) vals) (fun v s' => GoodWG r.claim (classAt s₀.heap) (ExcName.means s₀.heap) args s₁ (.ok (.ret v)) s')
        (fun e s' => GoodWG r.claim (classAt s₀.heap) (ExcName.means s₀.heap) args s₁ (.error e) s') s₁ ∧
      GoodWG r.claim (classAt s₀.heap) (ExcName.means s₀.heap) args s₁ (.ok (.ret (.bool true))) s₁
theorem PySem.W.holds_open {r : OpenRow} {q : Program} {loose : List PySem.Str} {Xt : Shared → Bool} {XP : (PySem.Str → Option Value) → Heap → Prop} {α : Type} {Yf : Shared → α} {Ya : World → α} {YP : World → Heap → Prop} {d : DefRec} {kwd : List (PySem.Str × Expr)} {N : Nat}
    (left : LeftO r.prog q loose Xt Yf Ya N) (hY : ∀ w s, Yf s = Ya w → YP w s.heap) (hYk : ∀ w h h', YP w h → (∀ b o, h.get? b = some o → h'.get? b = some o) → YP w h')
    (hX : ∀ s, Xt s = true → XP (s.heap.nsMap mainGlobals) s.heap) (hXk : ∀ mg h h', XP mg h → (∀ b o, h.get? b = some o → h'.get? b = some o) → XP mg h')
    (hdef : defOf q r.name = some (d, kwd)) (hp : r.prog.theDef r.name = some (d.params, d.body, d.scope)) (hk : kwWritten? d.params.kwonlyargs d.params.kw_defaults = some kwd) (hRf : ∀ s, Xt s = true → RecFacts r.records s.heap) (hwr : (!r.writes || r.records.isEmpty) = true)
    (k1 : r.wellSaid = true) (ok : (chainsOk q && opensWell r.prog && (frees r.toRowW && r.within.isEmpty)) = true) (hb : r.prog.bare) (hw : r.toRowW.promised)
    (call : WalkCl q loose XP YP r.toRowW d kwd) : r.Holds := by
  refine ⟨k1, hw, holdsOpenBy_step (c := r.toRowW.claim) (st' := fun vs => ⟨guardS (callStub r.name vs).cur (pure (.done (.ret (.bool true)))), .builtin "claim.caller" {}, default, []⟩) (fun w vs s hs => guard_step hs)
    (open_anyG (r := r.toRowW) (run := fun f vs => guardS (PySem.call f vs) (pure (.bool true))) (tree := fun vs => guardS (callStub r.name vs).cur (pure (.done (.ret (.bool true))))) left hY hYk hX hXk hRf hwr ok hb hw
      (fun vs w s mg f Q E hg hf h => ?_) (fun w s hg G n hn => ?_) fun w s₀ s₁ mg mb G Y args vs as hpre hlay L low => ?_)⟩
  · intro Γ p hΓ
    by_cases hc : (((Γ.code, p) :: Γ.below).all fun x => okC x.1) = true
    · have z := of_guard h
      have q := List.all_eq_true.mp hc
      have y : wpC (model r.prog w) callerA (callStub r.name vs).cur Q E s := by
        refine wpC_bindA (wpAny_nsGet hg ?_)
        rw [hf]
        exact wpC_bind (wpC_mono z (fun _ _ x => wpC_pure x) fun _ _ x => x)
      unfold guardS
      rw [Sem.wp_stack, if_pos hc]
      exact y Γ p hΓ (q _ List.mem_cons_self) fun x hx => q x (List.mem_cons_of_mem _ hx)
    · have z := h Γ p hΓ
      unfold guardS at z ⊢
      rw [Sem.wp_stack, if_neg hc] at z ⊢
      exact z
  · obtain rfl : n = r.name := by split at hn <;> simp_all
    exact pinned_of_view hg G hdef hp hk
  · obtain ⟨a, o, pm, cd, doc, dV, kV, h1, h2, h3, h4, h5⟩ := G.fn hdef
    obtain ⟨x, y⟩ := call w s₀ s₁ mg mb G Y a o pm cd doc dV kV h2 h3 h4 h5 (defOf_name hdef ▸ h1) L.gens args vs as hpre hlay L.reads L.well (L.low low)
    exact ⟨.ref a, h1, guard_any x (wpAny_pure y)⟩
end Mine
end

open PySem PySem.W PyProof.Rows
set_option Elab.async false
set_option maxRecDepth 100000
set_option linter.unusedVariables false
set_option maxHeartbeats 4000000
namespace Mine
set_option maxRecDepth 100000 in
set_option maxHeartbeats 8000000 in
open_top hd for PySem.Challenge.rw_vq0012_01



/-- one frame of the call's own: its env, those below, the heap that stays, its locals' place, depth, units, guards -/
structure Fm where
  env : Env
  outer : List Env
  h₀ : Heap
  L : Addr
  dp : Nat
  un : Nat
  gd : Option (List Code)

abbrev AR (f : Fm) : Around := { handled := none, depth := f.dp, frames := some (f.env :: f.outer), guards := f.gd, units := f.un }
abbrev PR : Program := PySem.Challenge.rw_vq0012_01.row.prog
abbrev MM (w : World) : Model := model PySem.Challenge.rw_vq0012_01.row.prog w

structure Cx (w : World) (f : Fm) (m : PySem.Str → Option Value) (news : List (Addr × Obj)) (h : Heap) : Prop where
  B : ∃ A₀ base, Below A₀ base f.outer f.h₀
  F : Fr f.h₀ f.L h m
  X : (Mine.hd.heap_39 w.params).In f.h₀
  N : News f.h₀ f.L h news
  T : ∃ p lo me mg mb, Top p lo me mg mb f.h₀
  hf : f.env.frame = some f.L
  hk : f.env.scope.kind = .function
  u : f.un ≤ 5 * f.dp + 50

section
variable {w : World} {f : Fm} {m m' : PySem.Str → Option Value} {news news' : List (Addr × Obj)} {h h' : Heap} {E : Value → Shared → Prop}
  {g : Array GenState} {d : Drawn} {tk : Nat} {o : OsState}

theorem Cx.to (C : Cx w f m news h) (F : Fr f.h₀ f.L h' m') (N : News f.h₀ f.L h' news') : Cx w f m' news' h' := ⟨C.B, F, C.X, N, C.T, C.hf, C.hk, C.u⟩
theorem Cx.sub (C : Cx w f m news h) (k : ∀ p ∈ news', p ∈ news) : Cx w f m news' h := C.to C.F fun p hp => C.N p (k p hp)
theorem Cx.drop {a : Addr} {ob : Obj} (C : Cx w f m ((a, ob) :: news) h) : Cx w f m news h := C.sub fun _ hp => .tail _ hp
theorem Cx.get {a : Addr} {ob : Obj} (C : Cx w f m news h) (hm : (a, ob) ∈ news) : h.get? a = some ob := (C.N _ hm).1
theorem Cx.same {a : Addr} {ob ob' : Obj} (C : Cx w f m news h) (hm : (a, ob) ∈ news) (hm' : (a, ob') ∈ news) : ob = ob' := Option.some.inj ((C.get hm).symm.trans (C.get hm'))
theorem Cx.ne {a b : Addr} {ob ob' : Obj} (C : Cx w f m news h) (hm : (a, ob) ∈ news) (hm' : (b, ob') ∈ news) (hne : ob ≠ ob') : a ≠ b := fun e => by subst e; exact hne (C.same hm hm')
theorem Cx.KX (C : Cx w f m news h) : (Mine.hd.heap_39 w.params).In h := C.X.keeps C.F.keep

/-- the ledger with D turned to o' -/
def up (D : Addr) (o' : Obj) (news : List (Addr × Obj)) : List (Addr × Obj) := (D, o') :: news.filter fun p => decide (p.1 ≠ D)
theorem mem_up_self {D : Addr} {o' : Obj} : (D, o') ∈ up D o' news := .head _
theorem mem_up {D a : Addr} {o' ob : Obj} (hm : (a, ob) ∈ news) (hne : a ≠ D) : (a, ob) ∈ up D o' news := .tail _ (List.mem_filter.mpr ⟨hm, by simpa using hne⟩)
theorem upd_up {D : Addr} {ob o' : Obj} : Upd D ob o' ((D, ob) :: news.filter fun p => decide (p.1 ≠ D)) (up D o' news) :=
  .head fun p hp => by simpa using (List.mem_filter.mp hp).2
theorem pickN {h₀ : Heap} {L D : Addr} {ob : Obj} (N : News h₀ L h news) (hm : (D, ob) ∈ news) : News h₀ L h ((D, ob) :: news.filter fun p => decide (p.1 ≠ D)) := fun p hp => by
  rcases List.mem_cons.mp hp with rfl | hp
  · exact N _ hm
  · exact N _ (List.mem_filter.mp hp).1

-- ENTER AND LEAVE
/-- what a def's body must bring about -/
def Lv (w : World) (f : Fm) (m : PySem.Str → Option Value) (f' : Fm) (g : Array GenState) (d : Drawn) (o : OsState) (Q : Value → Shared → Prop) (fl : Flow) (s' : Shared) : Prop :=
  ∃ h' tk' m' news', s' = ⟨h', g, d, tk', o⟩ ∧ Cx w f' m' news' h' ∧ (Cx w f m news' h' → Q (match fl with | .ret v => v | _ => .none) s')

theorem Lv.intro {f' : Fm} {Q : Value → Shared → Prop} {fl : Flow} (C : Cx w f' m' news' h') (k : Cx w f m news' h' → Q (match fl with | .ret v => v | _ => .none) ⟨h', g, d, tk, o⟩) :
    Lv w f m f' g d o Q fl ⟨h', g, d, tk, o⟩ := ⟨h', tk, m', news', rfl, C, k⟩

theorem enter_code {R : Result → Shared → Prop} {name qual : PySem.Str} {params : Arguments} {body : List Stmt} {scope : Scope} {dV kV doc pm cdv ct oc : Value} {an od : Option Addr} {osl : Array (Option Value)}
    {fa : Addr} {args : Args} {un : Nat} {binds : List (PySem.Str × Value)} (C : Cx w f m news h)
    (ho : (Mine.hd.heap_39 w.params).lookup fa = some ⟨oc, od, .func (fnOf name qual params body scope dV kV doc pm an cdv ct), osl⟩) (hcd : codeIn (Mine.hd.heap_39 w.params) cdv qual = true) {dp : Nat} (hroom : dp < 1000) (hun : un ≤ 5 * dp + 50)
    (hbind : bindArgs (fnOf name qual params body scope dV kV doc pm an cdv ct) args = pure binds)
    (hloc : (binds.all fun x => decide (scope.names.lookup x.1 = some .local)) = true)
    (hb : ∀ h₀' L' h', Cx w ⟨envOf qual scope L' fa cdv, f.env :: f.outer, h₀', L', dp + 1, un + 3, f.gd⟩ (fun y => binds.reverse.lookup y) news h' →
      wpAny (MM w) (AR ⟨envOf qual scope L' fa cdv, f.env :: f.outer, h₀', L', dp + 1, un + 3, f.gd⟩) (execs body (envOf qual scope L' fa cdv))
        (Lv w f m ⟨envOf qual scope L' fa cdv, f.env :: f.outer, h₀', L', dp + 1, un + 3, f.gd⟩ g d o fun v s' => R (.ok (.ret v)) s') (fun _ _ => False) ⟨h', g, d, tk + binds.length, o⟩)
    (hco : scope.isCoroutine = false) (hgen : scope.isGenerator = false) (hk : scope.kind = .function) (hcell : ∀ x ∈ scope.names, x.2 ≠ .cell) :
    codeAny (MM w) { handled := none, depth := dp, frames := some (f.env :: f.outer), guards := f.gd, units := un } (.call (.ref fa) args) R ⟨h, g, d, tk, o⟩ := by
  obtain ⟨⟨A₀, base, B⟩, F, X, N, ⟨p, lo, me, mg, mb, T⟩, hf, hke, hu⟩ := C
  refine code_def B F X N T rfl hf hke ho hcd hroom (BindsTo.of_eq hbind) (locs hloc) (fun g' L' h₁ FG F' N' B' X' T' => ?_) hco hgen hk hcell
  refine wpAny_mono (hb g' L' h₁ ⟨⟨_, _, B'⟩, F', X', N', ⟨p, lo, me, mg, mb, T'⟩, rfl, hk, by show un + 3 ≤ 5 * (dp + 1) + 50; omega⟩) (fun fl s' hl => ?_) fun _ _ x => x.elim
  obtain ⟨h', tk', m', news', rfl, C', k⟩ := hl
  exact leaveK_ C'.F C'.N fun F₂ N₂ => k ⟨⟨_, _, B⟩, F₂, X, N₂, ⟨p, lo, me, mg, mb, T⟩, hf, hke, hu⟩

theorem enter {Q : Value → Shared → Prop} {name qual : PySem.Str} {params : Arguments} {body : List Stmt} {scope : Scope} {dV kV doc pm cdv ct oc : Value} {an od : Option Addr} {osl : Array (Option Value)}
    {fa : Addr} {args : List Value} {binds : List (PySem.Str × Value)} (C : Cx w f m news h)
    (ho : (Mine.hd.heap_39 w.params).lookup fa = some ⟨oc, od, .func (fnOf name qual params body scope dV kV doc pm an cdv ct), osl⟩) (hcd : codeIn (Mine.hd.heap_39 w.params) cdv qual = true) (hroom : f.dp < 1000)
    (hbind : bindArgs (fnOf name qual params body scope dV kV doc pm an cdv ct) ⟨args, []⟩ = pure binds)
    (hloc : (binds.all fun x => decide (scope.names.lookup x.1 = some .local)) = true)
    (hb : ∀ h₀' L' h', Cx w ⟨envOf qual scope L' fa cdv, f.env :: f.outer, h₀', L', f.dp + 1, f.un + 3, f.gd⟩ (fun y => binds.reverse.lookup y) news h' →
      wpAny (MM w) (AR ⟨envOf qual scope L' fa cdv, f.env :: f.outer, h₀', L', f.dp + 1, f.un + 3, f.gd⟩) (execs body (envOf qual scope L' fa cdv))
        (Lv w f m ⟨envOf qual scope L' fa cdv, f.env :: f.outer, h₀', L', f.dp + 1, f.un + 3, f.gd⟩ g d o Q) (fun _ _ => False) ⟨h', g, d, tk + binds.length, o⟩)
    (hco : scope.isCoroutine = false) (hgen : scope.isGenerator = false) (hk : scope.kind = .function) (hcell : ∀ x ∈ scope.names, x.2 ≠ .cell) :
    wpAny (MM w) (AR f) (call (.ref fa) args) Q E ⟨h, g, d, tk, o⟩ :=
  wpAny_call (enter_code C ho hcd hroom C.u hbind hloc hb hco hgen hk hcell)
end

section
variable {w : World} {A : Around} {env : Env} {m m' : PySem.Str → Option Value} {news news' : List (Addr × Obj)} {h h' : Heap} {E : Value → Shared → Prop}
  {g : Array GenState} {d : Drawn} {tk : Nat} {o : OsState} {M : Model}

-- STATEMENTS (If with its two ways as implications)
def IfB (b : Bool) (X Y : Prop) : Prop := if b then X else Y
theorem ifB_true {X Y : Prop} (x : X) : IfB true X Y := x
theorem ifB_false {X Y : Prop} (y : Y) : IfB false X Y := y
theorem ifB_pos {c : Prop} [Decidable c] {X Y : Prop} (hc : c) (x : X) : IfB (decide c) X Y := by unfold IfB; rw [if_pos (decide_eq_true hc)]; exact x
theorem ifB_neg {c : Prop} [Decidable c] {X Y : Prop} (hc : ¬ c) (y : Y) : IfB (decide c) X Y := by unfold IfB; rw [if_neg (by simpa using hc)]; exact y
theorem ifB_split {b : Bool} {X Y : Prop} (x : b = true → X) (y : b = false → Y) : IfB b X Y := by unfold IfB; cases b with | true => exact x rfl | false => exact y rfl
theorem ifB_dec {c : Prop} [Decidable c] {X Y : Prop} (x : c → X) (y : ¬ c → Y) : IfB (decide c) X Y := by
  by_cases hc : c
  · exact ifB_pos hc (x hc)
  · exact ifB_neg hc (y hc)
theorem ifB_not {b : Bool} {X Y : Prop} (k : IfB b Y X) : IfB (!b) X Y := by cases b <;> exact k

theorem s_If {test : Expr} {body orelse : List Stmt} {pos : Pos} {Q : Flow → Shared → Prop} {s : Shared}
    (k : wpAny M A (isTrue test env (eval test env)) (fun b s₂ => IfB b (wpAny M A (execs body env) Q E s₂) (wpAny M A (execs orelse env) Q E s₂)) E s) : wpAny M A (exec (.If test body orelse pos) env) Q E s := wpAny_If k
theorem s_IfExp {test body orelse : Expr} {pos : Pos} {Q : Value → Shared → Prop} {s : Shared}
    (k : wpAny M A (isTrue test env (eval test env)) (fun b s₂ => IfB b (wpAny M A (eval body env) Q E s₂) (wpAny M A (eval orelse env) Q E s₂)) E s) : wpAny M A (eval (.IfExp test body orelse pos) env) Q E s := IfExp_ k
theorem s_and {x : Expr} {rest : List Expr} {pos : Pos} {whole : Sem Value} {Q : Bool → Shared → Prop} {s : Shared}
    (k : wpAny M A (isTrue x env (eval x env)) (fun c s' => IfB c (wpAny M A (isTrue (.BoolOp .And rest pos) env whole) Q E s') (Q false s')) E s) : wpAny M A (isTrue (.BoolOp .And (x :: rest) pos) env whole) Q E s := isTrue_and k
theorem s_or {x : Expr} {rest : List Expr} {pos : Pos} {whole : Sem Value} {Q : Bool → Shared → Prop} {s : Shared}
    (k : wpAny M A (isTrue x env (eval x env)) (fun c s' => IfB c (Q true s') (wpAny M A (isTrue (.BoolOp .Or rest pos) env whole) Q E s')) E s) : wpAny M A (isTrue (.BoolOp .Or (x :: rest) pos) env whole) Q E s := isTrue_or k
theorem s_Assert {test : Expr} {msg : Option Expr} {pos : Pos} {Q : Flow → Shared → Prop} {s : Shared}
    (k : wpAny M A (isTrue test env (eval test env)) (fun b s₁ => IfB b (Q .next s₁) False) E s) : wpAny M A (exec (.Assert test msg pos) env) Q E s := by
  refine wpAny_Assert_holds (wpAny_mono k (fun b s₁ z => ?_) fun _ _ x => x)
  cases b with
  | true => exact ⟨rfl, z⟩
  | false => exact z.elim
theorem s_execs {st : Stmt} {rest : List Stmt} {Q : Flow → Shared → Prop} {s : Shared}
    (k : wpAny M A (exec st env) (fun fl s' => match fl with | .next => wpAny M A (execs rest env) Q E s' | fl => Q fl s') E s) : wpAny M A (execs (st :: rest) env) Q E s := wpAny_execs_cons k
end

section
variable {w : World} {f : Fm} {m m' : PySem.Str → Option Value} {news news' : List (Addr × Obj)} {h h' : Heap} {E : Value → Shared → Prop}
  {g : Array GenState} {d : Drawn} {tk : Nat} {o : OsState} {nm : PySem.Str} {sc : Scope} {a L : Addr} {cd : Value} {outer : List Env} {h₀ : Heap} {dp un : Nat} {gd : Option (List Code)} {M : Model} {A : Around}

-- NAMES
theorem s_ld {x : PySem.Str} {pos : Pos} {v : Value} {Q : Value → Shared → Prop} (C : Cx w ⟨envOf nm sc L a cd, outer, h₀, L, dp, un, gd⟩ m news h) (hv : m x = some v) (k : Q v ⟨h, g, d, tk, o⟩)
    (hl : (envOf nm sc L a cd).kindOf x = some .local) (hd : (x == ("__debug__" : PySem.Str)) = false) : wpAny M A (eval (.Name x pos) (envOf nm sc L a cd)) Q E ⟨h, g, d, tk, o⟩ :=
  ld C.F hv k C.hk hl hd
theorem s_ldg {x : PySem.Str} {pos : Pos} {v : Value} {Q : Value → Shared → Prop} (C : Cx w ⟨envOf nm sc L a cd, outer, h₀, L, dp, un, gd⟩ m news h) (e : nsIn (Mine.hd.heap_39 w.params) mainGlobals x = some (some v)) (k : Q v ⟨h, g, d, tk, o⟩)
    (hx : (envOf nm sc L a cd).kindOf x = some .globalImplicit) (hd : (x == ("__debug__" : PySem.Str)) = false) : wpAny M A (eval (.Name x pos) (envOf nm sc L a cd)) Q E ⟨h, g, d, tk, o⟩ := by
  obtain ⟨p, lo, me, mg, mb, T⟩ := C.T
  exact name_K C.F C.X (topRead_of T) e k C.hk hx hd
theorem s_ldb {x : PySem.Str} {pos : Pos} {v : Value} {Q : Value → Shared → Prop} (C : Cx w ⟨envOf nm sc L a cd, outer, h₀, L, dp, un, gd⟩ m news h) (e : nsIn (Mine.hd.heap_39 w.params) mainGlobals x = some none) (hb : bootBuiltins x = some v) (hn : x ≠ "__name__") (k : Q v ⟨h, g, d, tk, o⟩)
    (hx : (envOf nm sc L a cd).kindOf x = some .globalImplicit) (hd : (x == ("__debug__" : PySem.Str)) = false) : wpAny M A (eval (.Name x pos) (envOf nm sc L a cd)) Q E ⟨h, g, d, tk, o⟩ := by
  obtain ⟨p, lo, me, mg, mb, T⟩ := C.T
  exact name_B C.F C.X (topRead_of T) e hb hn k C.hk hx hd
theorem s_st {x : PySem.Str} {v : Value} {Q : Unit → Shared → Prop} (C : Cx w ⟨envOf nm sc L a cd, outer, h₀, L, dp, un, gd⟩ m news h)
    (k : ∀ h', Cx w ⟨envOf nm sc L a cd, outer, h₀, L, dp, un, gd⟩ (fun y => if y = x then some v else m y) news h' → Q () ⟨h', g, d, tk + 1, o⟩)
    (hl : (envOf nm sc L a cd).kindOf x = some .local) : wpAny M A (storeName (envOf nm sc L a cd) x v) Q E ⟨h, g, d, tk, o⟩ :=
  stN C.F C.N (fun h' F' N' => k h' (C.to F' N')) C.hk hl

-- CONSTANTS, INTS
theorem s_int {env : Env} {i : Int} {k : Nat} {pos : Pos} {Q : Value → Shared → Prop} (c : Q (.int i tk) ⟨h, g, d, tk + 1, o⟩) : wpAny M A (eval (.Constant (.int i) k pos) env) Q E ⟨h, g, d, tk, o⟩ := wpAny_Constant_int c
theorem s_add {x y : Int} {t u : Tok} {Q : Value → Shared → Prop} (c : Q (.int (x + y) tk) ⟨h, g, d, tk + 1, o⟩) : wpAny (MM w) A (binaryOp .Add (.int x t) (.int y u)) Q E ⟨h, g, d, tk, o⟩ := add_int c
theorem s_sub {x y : Int} {t u : Tok} {Q : Value → Shared → Prop} (c : Q (.int (x - y) tk) ⟨h, g, d, tk + 1, o⟩) : wpAny (MM w) A (binaryOp .Sub (.int x t) (.int y u)) Q E ⟨h, g, d, tk, o⟩ := sub_int c
theorem s_iadd {x y : Int} {t u : Tok} {Q : Value → Shared → Prop} (c : Q (.int (x + y) tk) ⟨h, g, d, tk + 1, o⟩) : wpAny (MM w) A (inplaceOp .Add (.int x t) (.int y u)) Q E ⟨h, g, d, tk, o⟩ := iadd_int c
theorem s_isub {x y : Int} {t u : Tok} {Q : Value → Shared → Prop} (c : Q (.int (x - y) tk) ⟨h, g, d, tk + 1, o⟩) : wpAny (MM w) A (inplaceOp .Sub (.int x t) (.int y u)) Q E ⟨h, g, d, tk, o⟩ := isub_int c
theorem s_half {x : Int} {t u : Tok} {Q : Value → Shared → Prop} (h0 : 0 ≤ x) (c : Q (.int (x / 2) tk) ⟨h, g, d, tk + 1, o⟩) : wpAny (MM w) A (binaryOp .FloorDiv (.int x t) (.int 2 u)) Q E ⟨h, g, d, tk, o⟩ :=
  floordiv_int (by decide) (by rw [Int.fdiv_eq_ediv_of_nonneg _ (by decide)]; exact c)
end


theorem prime1 (w : World) (h : Heap) : (Mine.hd.heap_39 w.params).In h → PySem.Challenge.rw_vq0012_01.foot = PySem.Challenge.rw_vq0012_01.foot := by k_fill; intro _; rfl

/-- what of a node is of no account to a reader: its dict, lists, creator, the marks of its entries, its lists' epochs; and t -/
structure NK where
  dn : Nat
  le : Nat
  lc : Nat
  cr : Nat
  k1 : Nat
  k2 : Nat
  k3 : Nat
  k4 : Nat
  k5 : Nat
  tt : Nat
  e1 : Nat
  e2 : Nat
  t : Int

@[reducible] def nodeD (P : Params) (q : NK) (lf : Bool) : List DictEntry :=
  [⟨PyData.keyHash P "t", .str "t" q.k1, .int q.t q.tt⟩, ⟨PyData.keyHash P "creator", .str "creator" q.k2, .ref q.cr⟩, ⟨PyData.keyHash P "is_leaf", .str "is_leaf" q.k3, .bool lf⟩,
   ⟨PyData.keyHash P "elts", .str "elts" q.k4, .ref q.le⟩, ⟨PyData.keyHash P "children", .str "children" q.k5, .ref q.lc⟩]

structure NodeIn (P : Params) (news : List (Addr × Obj)) (n : Addr) (q : NK) (lf : Bool) (vs cs : List Value) : Prop where
  i : (n, instObj 424 q.dn) ∈ news
  d : (q.dn, dictOf (nodeD P q lf) 5) ∈ news
  e : (q.le, listOf vs.toArray q.e1) ∈ news
  c : (q.lc, listOf cs.toArray q.e2) ∈ news

/-- an element: a Member whose key is these octets -/
def EltB (P : Params) (news : List (Addr × Obj)) (a : Addr) (b : Array UInt8) (tb : Nat) : Prop :=
  ∃ da k, (a, instObj 671 da) ∈ news ∧ (da, dictOf [⟨PyData.keyHash P "_key", .str "_key" k, .bytes b tb⟩] 1) ∈ news

theorem NodeIn.mono {P : Params} {news news' : List (Addr × Obj)} {n : Addr} {q : NK} {lf : Bool} {vs cs : List Value} (H : NodeIn P news n q lf vs cs) (k : ∀ p ∈ news, p ∈ news') : NodeIn P news' n q lf vs cs :=
  ⟨k _ H.i, k _ H.d, k _ H.e, k _ H.c⟩
theorem NodeIn.cons {P : Params} {news : List (Addr × Obj)} {x : Addr × Obj} {n : Addr} {q : NK} {lf : Bool} {vs cs : List Value} (H : NodeIn P news n q lf vs cs) : NodeIn P (x :: news) n q lf vs cs := H.mono fun _ => .tail _
theorem EltB.mono {P : Params} {news news' : List (Addr × Obj)} {a : Addr} {b : Array UInt8} {tb : Nat} (H : EltB P news a b tb) (k : ∀ p ∈ news, p ∈ news') : EltB P news' a b tb :=
  let ⟨da, kk, h1, h2⟩ := H; ⟨da, kk, k _ h1, k _ h2⟩

section
variable {w : World} {f : Fm} {m : PySem.Str → Option Value} {news : List (Addr × Obj)} {h : Heap} {E : Value → Shared → Prop}
  {g : Array GenState} {d : Drawn} {tk : Nat} {o : OsState} {A : Around} {n : Addr} {q : NK} {lf : Bool} {vs cs : List Value} {Q : Value → Shared → Prop} {ex : Bool} {pl : Sem Bool} {QM : Value × List Value → Shared → Prop} {QU : Unit → Shared → Prop}

theorem nd_t (C : Cx w f m news h) (H : NodeIn w.params news n q lf vs cs) (k : Q (.int q.t q.tt) ⟨h, g, d, tk + 1, o⟩) : wpAny (MM w) A (getAttr (.ref n) "t" ex) Q E ⟨h, g, d, tk, o⟩ := by
  have X := C.X
  skip
  exact get_own (attr := none) C.F X (InstAt.of_news C.N H.i H.d) (by k_is) (by k_is) (by k_is) (by k_is) (by k_get) (by k_handed) k
theorem nd_creator (C : Cx w f m news h) (H : NodeIn w.params news n q lf vs cs) (k : Q (.ref q.cr) ⟨h, g, d, tk + 1, o⟩) : wpAny (MM w) A (getAttr (.ref n) "creator" ex) Q E ⟨h, g, d, tk, o⟩ := by
  have X := C.X
  skip
  exact get_own (attr := none) C.F X (InstAt.of_news C.N H.i H.d) (by k_is) (by k_is) (by k_is) (by k_is) (by k_get) (by k_handed) k
theorem nd_is_leaf (C : Cx w f m news h) (H : NodeIn w.params news n q lf vs cs) (k : Q (.bool lf) ⟨h, g, d, tk + 1, o⟩) : wpAny (MM w) A (getAttr (.ref n) "is_leaf" ex) Q E ⟨h, g, d, tk, o⟩ := by
  have X := C.X
  skip
  exact get_own (attr := none) C.F X (InstAt.of_news C.N H.i H.d) (by k_is) (by k_is) (by k_is) (by k_is) (by k_get) (by k_handed) k
theorem nd_elts (C : Cx w f m news h) (H : NodeIn w.params news n q lf vs cs) (k : Q (.ref q.le) ⟨h, g, d, tk + 1, o⟩) : wpAny (MM w) A (getAttr (.ref n) "elts" ex) Q E ⟨h, g, d, tk, o⟩ := by
  have X := C.X
  skip
  exact get_own (attr := none) C.F X (InstAt.of_news C.N H.i H.d) (by k_is) (by k_is) (by k_is) (by k_is) (by k_get) (by k_handed) k
theorem nd_children (C : Cx w f m news h) (H : NodeIn w.params news n q lf vs cs) (k : Q (.ref q.lc) ⟨h, g, d, tk + 1, o⟩) : wpAny (MM w) A (getAttr (.ref n) "children" ex) Q E ⟨h, g, d, tk, o⟩ := by
  have X := C.X
  skip
  exact get_own (attr := none) C.F X (InstAt.of_news C.N H.i H.d) (by k_is) (by k_is) (by k_is) (by k_is) (by k_get) (by k_handed) k
theorem nd_set_elts {l : Addr} (C : Cx w f m news h) (H : NodeIn w.params news n q lf vs cs) (k : ∀ h', Cx w f m (up q.dn (dictOf (nodeD w.params { q with le := l } lf) 5) news) h' → QU () ⟨h', g, d, tk + 2, o⟩) : wpAny (MM w) A (setAttr (.ref n) "elts" (.ref l)) QU E ⟨h, g, d, tk, o⟩ := by
  have X := C.X
  skip
  refine set_dict (es' := nodeD w.params { q with le := l } lf) (n' := 5) C.F X (pickN C.N H.d) (InstAt.of_news C.N H.i H.d) rfl (by k_is) (by k_is) (by k_is) (by k_is) (by k_get) (by k_put) upd_up (Nat.le_of_ble_eq_true rfl) fun h' F' N' => k h' (C.to F' N')
theorem nd_set_children {l : Addr} (C : Cx w f m news h) (H : NodeIn w.params news n q lf vs cs) (k : ∀ h', Cx w f m (up q.dn (dictOf (nodeD w.params { q with lc := l } lf) 5) news) h' → QU () ⟨h', g, d, tk + 2, o⟩) : wpAny (MM w) A (setAttr (.ref n) "children" (.ref l)) QU E ⟨h, g, d, tk, o⟩ := by
  have X := C.X
  skip
  refine set_dict (es' := nodeD w.params { q with lc := l } lf) (n' := 5) C.F X (pickN C.N H.d) (InstAt.of_news C.N H.i H.d) rfl (by k_is) (by k_is) (by k_is) (by k_is) (by k_get) (by k_put) upd_up (Nat.le_of_ble_eq_true rfl) fun h' F' N' => k h' (C.to F' N')
theorem nm_is_maximal (C : Cx w f m news h) (H : NodeIn w.params news n q lf vs cs) (k : QM (.ref 281, [.ref n]) ⟨h, g, d, tk, o⟩) : wpAny (MM w) A (getMethod (.ref n) "is_maximal" pl) QM E ⟨h, g, d, tk, o⟩ := by
  have X := C.X
  skip
  exact method_inst C.F X (InstAt.of_news C.N H.i H.d) (by k_is) (by k_is) (by k_is) (by k_get) k
theorem nm_is_minimal (C : Cx w f m news h) (H : NodeIn w.params news n q lf vs cs) (k : QM (.ref 288, [.ref n]) ⟨h, g, d, tk, o⟩) : wpAny (MM w) A (getMethod (.ref n) "is_minimal" pl) QM E ⟨h, g, d, tk, o⟩ := by
  have X := C.X
  skip
  exact method_inst C.F X (InstAt.of_news C.N H.i H.d) (by k_is) (by k_is) (by k_is) (by k_get) k
theorem nm_search_in_node (C : Cx w f m news h) (H : NodeIn w.params news n q lf vs cs) (k : QM (.ref 295, [.ref n]) ⟨h, g, d, tk, o⟩) : wpAny (MM w) A (getMethod (.ref n) "search_in_node" pl) QM E ⟨h, g, d, tk, o⟩ := by
  have X := C.X
  skip
  exact method_inst C.F X (InstAt.of_news C.N H.i H.d) (by k_is) (by k_is) (by k_is) (by k_get) k
theorem nm_maybe_cow_child (C : Cx w f m news h) (H : NodeIn w.params news n q lf vs cs) (k : QM (.ref 302, [.ref n]) ⟨h, g, d, tk, o⟩) : wpAny (MM w) A (getMethod (.ref n) "maybe_cow_child" pl) QM E ⟨h, g, d, tk, o⟩ := by
  have X := C.X
  skip
  exact method_inst C.F X (InstAt.of_news C.N H.i H.d) (by k_is) (by k_is) (by k_is) (by k_get) k
theorem nm_get_node (C : Cx w f m news h) (H : NodeIn w.params news n q lf vs cs) (k : QM (.ref 309, [.ref n]) ⟨h, g, d, tk, o⟩) : wpAny (MM w) A (getMethod (.ref n) "_get_node" pl) QM E ⟨h, g, d, tk, o⟩ := by
  have X := C.X
  skip
  exact method_inst C.F X (InstAt.of_news C.N H.i H.d) (by k_is) (by k_is) (by k_is) (by k_get) k
theorem nm_get (C : Cx w f m news h) (H : NodeIn w.params news n q lf vs cs) (k : QM (.ref 316, [.ref n]) ⟨h, g, d, tk, o⟩) : wpAny (MM w) A (getMethod (.ref n) "get" pl) QM E ⟨h, g, d, tk, o⟩ := by
  have X := C.X
  skip
  exact method_inst C.F X (InstAt.of_news C.N H.i H.d) (by k_is) (by k_is) (by k_is) (by k_get) k
theorem nm_insert_nonfull (C : Cx w f m news h) (H : NodeIn w.params news n q lf vs cs) (k : QM (.ref 330, [.ref n]) ⟨h, g, d, tk, o⟩) : wpAny (MM w) A (getMethod (.ref n) "insert_nonfull" pl) QM E ⟨h, g, d, tk, o⟩ := by
  have X := C.X
  skip
  exact method_inst C.F X (InstAt.of_news C.N H.i H.d) (by k_is) (by k_is) (by k_is) (by k_get) k
theorem nm_split (C : Cx w f m news h) (H : NodeIn w.params news n q lf vs cs) (k : QM (.ref 337, [.ref n]) ⟨h, g, d, tk, o⟩) : wpAny (MM w) A (getMethod (.ref n) "split" pl) QM E ⟨h, g, d, tk, o⟩ := by
  have X := C.X
  skip
  exact method_inst C.F X (InstAt.of_news C.N H.i H.d) (by k_is) (by k_is) (by k_is) (by k_get) k
theorem nm_try_left_steal (C : Cx w f m news h) (H : NodeIn w.params news n q lf vs cs) (k : QM (.ref 344, [.ref n]) ⟨h, g, d, tk, o⟩) : wpAny (MM w) A (getMethod (.ref n) "try_left_steal" pl) QM E ⟨h, g, d, tk, o⟩ := by
  have X := C.X
  skip
  exact method_inst C.F X (InstAt.of_news C.N H.i H.d) (by k_is) (by k_is) (by k_is) (by k_get) k
theorem nm_try_right_steal (C : Cx w f m news h) (H : NodeIn w.params news n q lf vs cs) (k : QM (.ref 351, [.ref n]) ⟨h, g, d, tk, o⟩) : wpAny (MM w) A (getMethod (.ref n) "try_right_steal" pl) QM E ⟨h, g, d, tk, o⟩ := by
  have X := C.X
  skip
  exact method_inst C.F X (InstAt.of_news C.N H.i H.d) (by k_is) (by k_is) (by k_is) (by k_get) k
theorem nm_adopt (C : Cx w f m news h) (H : NodeIn w.params news n q lf vs cs) (k : QM (.ref 358, [.ref n]) ⟨h, g, d, tk, o⟩) : wpAny (MM w) A (getMethod (.ref n) "adopt" pl) QM E ⟨h, g, d, tk, o⟩ := by
  have X := C.X
  skip
  exact method_inst C.F X (InstAt.of_news C.N H.i H.d) (by k_is) (by k_is) (by k_is) (by k_get) k
theorem nm_merge (C : Cx w f m news h) (H : NodeIn w.params news n q lf vs cs) (k : QM (.ref 365, [.ref n]) ⟨h, g, d, tk, o⟩) : wpAny (MM w) A (getMethod (.ref n) "merge" pl) QM E ⟨h, g, d, tk, o⟩ := by
  have X := C.X
  skip
  exact method_inst C.F X (InstAt.of_news C.N H.i H.d) (by k_is) (by k_is) (by k_is) (by k_get) k
theorem nm_minimum (C : Cx w f m news h) (H : NodeIn w.params news n q lf vs cs) (k : QM (.ref 372, [.ref n]) ⟨h, g, d, tk, o⟩) : wpAny (MM w) A (getMethod (.ref n) "minimum" pl) QM E ⟨h, g, d, tk, o⟩ := by
  have X := C.X
  skip
  exact method_inst C.F X (InstAt.of_news C.N H.i H.d) (by k_is) (by k_is) (by k_is) (by k_get) k
theorem nm_balance (C : Cx w f m news h) (H : NodeIn w.params news n q lf vs cs) (k : QM (.ref 386, [.ref n]) ⟨h, g, d, tk, o⟩) : wpAny (MM w) A (getMethod (.ref n) "balance" pl) QM E ⟨h, g, d, tk, o⟩ := by
  have X := C.X
  skip
  exact method_inst C.F X (InstAt.of_news C.N H.i H.d) (by k_is) (by k_is) (by k_is) (by k_get) k
theorem nm_delete (C : Cx w f m news h) (H : NodeIn w.params news n q lf vs cs) (k : QM (.ref 393, [.ref n]) ⟨h, g, d, tk, o⟩) : wpAny (MM w) A (getMethod (.ref n) "delete" pl) QM E ⟨h, g, d, tk, o⟩ := by
  have X := C.X
  skip
  exact method_inst C.F X (InstAt.of_news C.N H.i H.d) (by k_is) (by k_is) (by k_is) (by k_get) k
theorem nm_maybe_cow (C : Cx w f m news h) (H : NodeIn w.params news n q lf vs cs) (k : QM (.ref 414, [.ref n]) ⟨h, g, d, tk, o⟩) : wpAny (MM w) A (getMethod (.ref n) "maybe_cow" pl) QM E ⟨h, g, d, tk, o⟩ := by
  have X := C.X
  skip
  exact method_inst C.F X (InstAt.of_news C.N H.i H.d) (by k_is) (by k_is) (by k_is) (by k_get) k
variable {a : Addr} {b : Array UInt8} {tb : Nat}
theorem el_key (C : Cx w f m news h) (H : EltB w.params news a b tb) (k : Q (.bytes b tb) ⟨h, g, d, tk + 1, o⟩) : wpAny (MM w) A (getAttr (.ref a) "_key" ex) Q E ⟨h, g, d, tk, o⟩ := by
  have X := C.X
  obtain ⟨da, kk, h1, h2⟩ := H
  exact get_own (attr := none) C.F X (InstAt.of_news C.N h1 h2) (by k_is) (by k_is) (by k_is) (by k_is) (by k_get) (by k_handed) k
theorem em_key (C : Cx w f m news h) (H : EltB w.params news a b tb) (k : QM (.ref 668, [.ref a]) ⟨h, g, d, tk, o⟩) : wpAny (MM w) A (getMethod (.ref a) "key" pl) QM E ⟨h, g, d, tk, o⟩ := by
  have X := C.X
  obtain ⟨da, kk, h1, h2⟩ := H
  exact method_inst C.F X (InstAt.of_news C.N h1 h2) (by k_is) (by k_is) (by k_is) (by k_get) k
end

section
open PySem Builtin
variable {prog : Program} {w : World} {A : Around} {E : Value → Shared → Prop} {s : Shared} {b c : Array UInt8} {t u : Tok}
theorem slot_bytes_lt : Slot "bytes" (cmpInfo .Lt).2.1 "bytes.__lt__" :=
  .of (owner := "bytes") (n := "__lt__") (by rw [typeLookup_type, builtinLookup_eq_fast]; kernel_rfl) (by decide +kernel) (by decide +kernel) (by decide +kernel)
    (by first | exact .inl (by decide +kernel) | exact .inr (by decide +kernel)) (by rw [isSubtype_type]; kernel_rfl)
theorem entry_bytes_lt : entryFor table "bytes.__lt__" = some Builtin.«bytes.__lt__» := entryFor_of_tree (by kernel_rfl)
theorem args_bytes_lt_2 (a b : Value) : argsOk "bytes.__lt__" ⟨[a, b], []⟩ := by unfold argsOk; kernel_rfl
theorem slot_bytes_gt : Slot "bytes" (cmpInfo .Gt).2.1 "bytes.__gt__" :=
  .of (owner := "bytes") (n := "__gt__") (by rw [typeLookup_type, builtinLookup_eq_fast]; kernel_rfl) (by decide +kernel) (by decide +kernel) (by decide +kernel)
    (by first | exact .inl (by decide +kernel) | exact .inr (by decide +kernel)) (by rw [isSubtype_type]; kernel_rfl)
theorem entry_bytes_gt : entryFor table "bytes.__gt__" = some Builtin.«bytes.__gt__» := entryFor_of_tree (by kernel_rfl)
theorem args_bytes_gt_2 (a b : Value) : argsOk "bytes.__gt__" ⟨[a, b], []⟩ := by unfold argsOk; kernel_rfl
theorem gives_bytes_lt (b c : Array UInt8) (t u : Tok) : Gives («bytes.__lt__» ⟨[.bytes b t, .bytes c u], []⟩) (.val (.bool (Bytes.order b.toList c.toList == .lt))) := by
  refine .of_wp fun M A E s Q hq => ?_
  show wpAny M A (isInstance (.bytes c u) (.type "bytes") >>= fun r => _) _ E s
  refine wpAny_bind (wpAny_isInstance (typeIs_bytes s c u) F.sub_bytes_bytes ?_)
  exact wpAny_pure ⟨_, rfl, hq⟩
theorem gives_bytes_gt (b c : Array UInt8) (t u : Tok) : Gives («bytes.__gt__» ⟨[.bytes b t, .bytes c u], []⟩) (.val (.bool (Bytes.order b.toList c.toList == .gt))) := by
  refine .of_wp fun M A E s Q hq => ?_
  show wpAny M A (isInstance (.bytes c u) (.type "bytes") >>= fun r => _) _ E s
  refine wpAny_bind (wpAny_isInstance (typeIs_bytes s c u) F.sub_bytes_bytes ?_)
  exact wpAny_pure ⟨_, rfl, hq⟩
theorem lt_bytes {Q : Value → Shared → Prop} (h : Q (.bool (Bytes.order b.toList c.toList == .lt)) s) : wpAny (model prog w) A (compareOp .Lt (.bytes b t) (.bytes c u)) Q E s :=
  compareOp_gives (op := .Lt) (typeIs_bytes s b t) (typeIs_bytes s c u) slot_bytes_lt entry_bytes_lt (args_bytes_lt_2 _ _) (gives_bytes_lt b c t u) (fun e => nomatch e) h
theorem gt_bytes {Q : Value → Shared → Prop} (h : Q (.bool (Bytes.order b.toList c.toList == .gt)) s) : wpAny (model prog w) A (compareOp .Gt (.bytes b t) (.bytes c u)) Q E s :=
  compareOp_gives (op := .Gt) (typeIs_bytes s b t) (typeIs_bytes s c u) slot_bytes_gt entry_bytes_gt (args_bytes_gt_2 _ _) (gives_bytes_gt b c t u) (fun e => nomatch e) h
end



theorem size_line {n : Nat} (hn : n ≤ 1000) : n ≤ sizeLine := by rw [sizeLine_eq]; omega
theorem setL_of : ∀ {l : List Value} {k : Nat} {v : Value}, k < l.length → ki_setL l k v = some (l.set k v)
  | [], k, v, h => absurd h (Nat.not_lt_zero _)
  | x :: r, 0, v, h => rfl
  | x :: r, k + 1, v, h => by
    have ih := setL_of (l := r) (k := k) (v := v) (Nat.lt_of_succ_lt_succ h)
    unfold ki_setL
    rw [ih]
    rfl
theorem last_of : ∀ (p : List Value) (y : Value), kl_last (p ++ [y]) = some (p, y)
  | [], y => rfl
  | x :: p, y => by
    show kl_last (x :: (p ++ [y])) = _
    unfold kl_last
    rw [last_of p y]
theorem fitsI {i : Int} (h0 : 0 ≤ i) (h1 : i ≤ 1000) : Builtin.List.listFitsIndex i = true := by
  unfold Builtin.List.listFitsIndex
  simp only [Bool.and_eq_true, decide_eq_true_eq]
  omega

abbrev tupOf (vs : List Value) : Obj := { cls := .type "tuple", data := .seq vs.toArray }

section
variable {w : World} {f : Fm} {m : PySem.Str → Option Value} {news : List (Addr × Obj)} {h : Heap} {E : Value → Shared → Prop}
  {g : Array GenState} {d : Drawn} {tk : Nat} {o : OsState} {A : Around} {l : Addr} {vs : List Value} {n : Nat} {Q : Value → Shared → Prop} {pl : Sem Bool} {QM : Value × List Value → Shared → Prop} {QU : Unit → Shared → Prop}
  {x y : Value} {i : Int} {t : Tok} {M : Model}

theorem Cx.isList (C : Cx w f m news h) (hm : (l, listOf vs.toArray n) ∈ news) : h.IsList l vs.toArray := ⟨_, C.get hm, rfl, n, rfl⟩

theorem l_len {N : Nat} (C : Cx w f m news h) (hm : (l, listOf vs.toArray n) ∈ news) (hN : vs.length = N) (hz : N ≤ 1000) (k : Q (.int N (tk + 1)) ⟨h, g, d, tk + 2, o⟩) : wpAny (MM w) A (call (.builtin "len") [.ref l]) Q E ⟨h, g, d, tk, o⟩ := by
  subst hN
  exact Calls.call_len_list (C.isList hm) (by rw [List.size_toArray]; omega) (by rw [List.size_toArray]; exact k)
theorem lm_append (C : Cx w f m news h) (hm : (l, listOf vs.toArray n) ∈ news) (k : QM (.builtin "list.append", [.ref l]) ⟨h, g, d, tk, o⟩) : wpAny (MM w) A (getMethod (.ref l) "append" pl) QM E ⟨h, g, d, tk, o⟩ :=
  kl_method C.N hm PySem.F.slot_list_append PySem.F.type_list_append k
theorem lm_pop (C : Cx w f m news h) (hm : (l, listOf vs.toArray n) ∈ news) (k : QM (.builtin "list.pop", [.ref l]) ⟨h, g, d, tk, o⟩) : wpAny (MM w) A (getMethod (.ref l) "pop" pl) QM E ⟨h, g, d, tk, o⟩ :=
  kl_method C.N hm PySem.F.slot_list_pop PySem.F.type_list_pop k
theorem lm_insert (C : Cx w f m news h) (hm : (l, listOf vs.toArray n) ∈ news) (k : QM (.builtin "list.insert", [.ref l]) ⟨h, g, d, tk, o⟩) : wpAny (MM w) A (getMethod (.ref l) "insert" pl) QM E ⟨h, g, d, tk, o⟩ :=
  kl_method C.N hm PySem.F.slot_list_insert PySem.F.type_list_insert k
theorem lm_extend (C : Cx w f m news h) (hm : (l, listOf vs.toArray n) ∈ news) (k : QM (.builtin "list.extend", [.ref l]) ⟨h, g, d, tk, o⟩) : wpAny (MM w) A (getMethod (.ref l) "extend" pl) QM E ⟨h, g, d, tk, o⟩ :=
  kl_method C.N hm PySem.F.slot_list_extend PySem.F.type_list_extend k
theorem l_append (C : Cx w f m news h) (hm : (l, listOf vs.toArray n) ∈ news) (hz : vs.length ≤ 1000) (k : ∀ h', Cx w f m (up l (listOf (vs ++ [x]).toArray (n + 1)) news) h' → Q .none ⟨h', g, d, tk, o⟩) :
    wpAny (MM w) A (call (.builtin "list.append") [.ref l, x]) Q E ⟨h, g, d, tk, o⟩ := by
  refine append_K (its := vs.toArray) (n := n) C.F (pickN C.N hm) upd_up (fun h' F' N' => k h' (C.to F' ?_)) (by rw [List.size_toArray]; exact size_line hz)
  rw [List.push_toArray] at N'
  exact N'
theorem l_pop (C : Cx w f m news h) (hm : (l, listOf (vs ++ [y]).toArray n) ∈ news) (hz : vs.length < 1000) (k : ∀ h', Cx w f m (up l (listOf vs.toArray (n + 1)) news) h' → Q y ⟨h', g, d, tk, o⟩) :
    wpAny (MM w) A (call (.builtin "list.pop") [.ref l]) Q E ⟨h, g, d, tk, o⟩ :=
  kl_pop (its := (vs ++ [y]).toArray) (n := n) C.F (pickN C.N hm) (last_of vs y) upd_up (size_line (by show (vs ++ [y]).length ≤ 1000; rw [List.length_append]; exact hz)) fun h' F' N' => k h' (C.to F' N')
theorem l_pop0 (C : Cx w f m news h) (hm : (l, listOf (y :: vs).toArray n) ∈ news) (hz : vs.length < 1000) (k : ∀ h', Cx w f m (up l (listOf vs.toArray (n + 1)) news) h' → Q y ⟨h', g, d, tk, o⟩) :
    wpAny (MM w) A (call (.builtin "list.pop") [.ref l, .int 0 t]) Q E ⟨h, g, d, tk, o⟩ :=
  kl_popAt (its := (y :: vs).toArray) (n := n) (p := []) (q := vs) (k := 0) C.F (pickN C.N hm) (by decide) (by unfold seqIndex?; simp) rfl upd_up (size_line (by show (y :: vs).length ≤ 1000; rw [List.length_cons]; exact hz)) fun h' F' N' => k h' (C.to F' N')
theorem l_popAt {p q : List Value} (C : Cx w f m news h) (hm : (l, listOf (p ++ y :: q).toArray n) ∈ news) (hi : i = p.length) (hz : (p ++ y :: q).length ≤ 1000) (k : ∀ h', Cx w f m (up l (listOf (p ++ q).toArray (n + 1)) news) h' → Q y ⟨h', g, d, tk, o⟩) :
    wpAny (MM w) A (call (.builtin "list.pop") [.ref l, .int i t]) Q E ⟨h, g, d, tk, o⟩ := by
  subst hi
  have hz' := hz
  rw [List.length_append, List.length_cons] at hz'
  refine kl_popAt (its := (p ++ y :: q).toArray) (n := n) (p := p) (q := q) (k := p.length) C.F (pickN C.N hm) (fitsI (by omega) (by omega)) ?_ ?_ upd_up (size_line hz) fun h' F' N' => k h' (C.to F' N')
  · unfold seqIndex?
    rw [List.size_toArray, List.length_append, List.length_cons]
    have e0 : ¬ ((p.length : Int) < 0) := by omega
    simp only [e0, if_false]
    simp
    omega
  · show kl_cut (p ++ y :: q) p.length = _
    clear k hm hz hz'
    induction p with
    | nil => rfl
    | cons a p ih =>
      show kl_cut (a :: (p ++ y :: q)) (p.length + 1) = _
      unfold kl_cut
      rw [ih]
theorem l_insert {p q : List Value} (C : Cx w f m news h) (hm : (l, listOf (p ++ q).toArray n) ∈ news) (hi : i = p.length) (hz : (p ++ q).length ≤ 1000) (k : ∀ h', Cx w f m (up l (listOf (p ++ y :: q).toArray (n + 1)) news) h' → Q .none ⟨h', g, d, tk, o⟩) :
    wpAny (MM w) A (call (.builtin "list.insert") [.ref l, .int i t, y]) Q E ⟨h, g, d, tk, o⟩ := by
  subst hi
  have hz' := hz
  rw [List.length_append] at hz'
  refine kl_insert (its := (p ++ q).toArray) (n := n) (l := p ++ y :: q) C.F (pickN C.N hm) (fitsI (by omega) (by omega)) ?_ upd_up (size_line hz) fun h' F' N' => k h' (C.to F' N')
  show kl_ins (p ++ q) (p.length : Int) y = _
  unfold kl_ins
  rw [if_neg (by omega), show min ((p.length : Int)).toNat (p ++ q).length = p.length from by rw [List.length_append]; omega]
  simp
theorem l_extend {ws : List Value} {l2 n2 : Nat} (C : Cx w f m news h) (hm : (l, listOf vs.toArray n) ∈ news) (hm2 : (l2, listOf ws.toArray n2) ∈ news) (hne : l2 ≠ l) (h0 : ws.length ≠ 0) (hz : vs.length + ws.length ≤ 1000)
    (k : ∀ h', Cx w f m (up l (listOf (vs ++ ws).toArray (n + 1)) news) h' → Q .none ⟨h', g, d, tk, o⟩) :
    wpAny (MM w) A (call (.builtin "list.extend") [.ref l, .ref l2]) Q E ⟨h, g, d, tk, o⟩ := by
  refine kl_extend (its := vs.toArray) (its2 := ws.toArray) (n := n) (n2 := n2) C.F (pickN C.N hm) (.tail _ (List.mem_filter.mpr ⟨hm2, by simpa using hne⟩)) rfl h0 upd_up ?_ (size_line (by show vs.length ≤ 1000; omega)) ?_ fun h' F' N' => k h' (C.to F' N')
  · unfold Builtin.List.listTooLong
    rw [List.size_toArray, List.size_toArray]
    have := sizeLine_eq
    simp only [Bool.and_eq_true, decide_eq_true_eq, Bool.not_eq_true', not_and]
    intro _
    omega
  · rw [List.size_toArray, List.size_toArray]
    exact Nat.le_succ_of_le (size_line hz)
theorem l_set (C : Cx w f m news h) (hm : (l, listOf vs.toArray n) ∈ news) (h0 : 0 ≤ i) (h1 : i < vs.length) (hz : vs.length ≤ 1000) (k : ∀ h', Cx w f m (up l (listOf (vs.set i.toNat x).toArray n) news) h' → QU () ⟨h', g, d, tk, o⟩) :
    wpAny (MM w) A (setItem (.ref l) (.int i t) x) QU E ⟨h, g, d, tk, o⟩ :=
  ki_set (its := vs.toArray) (n := n) C.F (pickN C.N hm) h0 (by omega) (setL_of (k := i.toNat) (l := vs) (v := x) (by omega)) upd_up fun h' F' N' => k h' (C.to F' N')
theorem l_get {value slice : Expr} (C : Cx w f m news h) (hm : (l, listOf vs.toArray n) ∈ news) (h0 : 0 ≤ i) (hz : vs.length ≤ 1000) (hx : vs[i.toNat]? = some x) (k : Q x ⟨h, g, d, tk, o⟩)
    (hs : subscripted slice false (.ref l) (.int i t) = operate [.ref l, .int i t] (getItem (.ref l) (.int i t))) :
    wpAny (MM w) A (subscriptTail value slice (.ref l) (.int i t)) Q E ⟨h, g, d, tk, o⟩ := by
  have := (List.getElem?_eq_some_iff.mp hx).1
  exact tail_any (C.isList hm).typeIs slot_list_getitem.lookup (wpAny_getItem_list (C.isList hm) h0 (by omega) (by simpa using hx) k) hs
theorem l_getLast {value slice : Expr} {p : List Value} (C : Cx w f m news h) (hm : (l, listOf (p ++ [x]).toArray n) ∈ news) (hz : p.length < 1000) (k : Q x ⟨h, g, d, tk, o⟩)
    (hs : subscripted slice false (.ref l) (.int (-1) t) = operate [.ref l, .int (-1) t] (getItem (.ref l) (.int (-1) t))) :
    wpAny (MM w) A (subscriptTail value slice (.ref l) (.int (-1) t)) Q E ⟨h, g, d, tk, o⟩ := by
  have hsz : (p ++ [x]).toArray.size = p.length + 1 := by rw [List.size_toArray, List.length_append]; rfl
  refine tail_any (C.isList hm).typeIs slot_list_getitem.lookup (wpAny_getItem_list_neg (C.isList hm) (by omega) (by rw [hsz]; omega) (by omega) ?_ k) hs
  rw [hsz, show ((-1 : Int) + ((p.length + 1 : Nat) : Int)).toNat = p.length from by omega]
  simp

-- slices
theorem s_slice {env : Env} {lower upper : Option Expr} {p : Pos} {s : Shared}
    (k : wpAny M A (evalPart lower env) (fun vl s₂ => wpAny M A (evalPart upper env) (fun vu s₃ => Q (.ref s₃.heap.objs.size) { s₃ with heap := s₃.heap.push { cls := .type "slice", data := .fields #[vl, vu, .none] } }) E s₂) E s) :
    wpAny M A (eval (.Slice lower upper none p) env) Q E s :=
  wpAny_Slice (wpAny_mono k (fun vl s₂ k₂ => wpAny_mono k₂ (fun vu s₃ k₃ => by rw [evalPart_none]; exact wpAny_pure k₃) fun _ _ e => e) fun _ _ e => e)
theorem s_part_none {env : Env} {s : Shared} (k : Q .none s) : wpAny M A (evalPart none env) Q E s := wpAny_pure k
theorem s_part_some {env : Env} {s : Shared} {e : Expr} (k : wpAny M A (eval e env) Q E s) : wpAny M A (evalPart (some e) env) Q E s := k
theorem slice_of {value slice : Expr} {lo hi : Option Int} {vl vu : Value} {zs : List Value} (C : Cx w f m news h) (hm : (l, listOf vs.toArray n) ∈ news) (hz : vs.length ≤ 1000) (pl : IsPart vl lo) (pu : IsPart vu hi) (e : slicePick vs.toArray lo hi none = zs.toArray)
    (k : ∀ D h', Cx w f m ((D, listOf zs.toArray 0) :: news) h' → (∀ p ∈ news, p.1 < D) → Q (.ref D) ⟨h', g, d, tk, o⟩)
    (hs : ∀ sl, subscripted slice false (.ref l) (.ref sl) = operate [.ref sl, .ref l] (getItem (.ref l) (.ref sl))) :
    wpAny (MM w) A (subscriptTail value slice (.ref l) (.ref h.objs.size)) Q E ⟨h.push { cls := .type "slice", data := .fields #[vl, vu, .none] }, g, d, tk, o⟩ := by
  have hl := (C.isList hm).push { cls := .type "slice", data := .fields #[vl, vu, .none] }
  refine tail_any (s := ⟨h.push { cls := .type "slice", data := .fields #[vl, vu, .none] }, g, d, tk, o⟩) hl.typeIs slot_list_getitem.lookup (wpAny_getItem_list_slice hl (Heap.IsSliceOf.new ..) pl pu .none (by simp) ?_ (by rw [List.size_toArray]; exact size_line hz)) (hs _)
  rw [e]
  have F1 := C.F.push { cls := .type "slice", data := .fields #[vl, vu, .none] }
  have N2 := (C.N.push C.F { cls := .type "slice", data := .fields #[vl, vu, .none] }).push F1 { cls := .type "list", data := .seq zs.toArray }
  refine k _ _ (C.to (F1.push _) fun p hp => N2 p ?_) fun p hp => ?_
  · rcases List.mem_cons.mp hp with rfl | hp
    · exact .head _
    · exact .tail _ (.tail _ hp)
  · show p.1 < (h.push _).objs.size
    rw [Heap.size_push]
    exact Nat.lt_succ_of_lt (Heap.lt_size (C.N p hp).1)
theorem slice_from {value slice : Expr} (C : Cx w f m news h) (hm : (l, listOf vs.toArray n) ∈ news) (hz : vs.length ≤ 1000) (h0 : 0 ≤ i) (h1 : i ≤ vs.length)
    (k : ∀ D h', Cx w f m ((D, listOf (vs.drop i.toNat).toArray 0) :: news) h' → (∀ p ∈ news, p.1 < D) → Q (.ref D) ⟨h', g, d, tk, o⟩) (hs : ∀ sl, subscripted slice false (.ref l) (.ref sl) = operate [.ref sl, .ref l] (getItem (.ref l) (.ref sl))) :
    wpAny (MM w) A (subscriptTail value slice (.ref l) (.ref h.objs.size)) Q E ⟨h.push { cls := .type "slice", data := .fields #[.int i t, .none, .none] }, g, d, tk, o⟩ := by
  obtain ⟨j, rfl⟩ := Int.eq_ofNat_of_zero_le h0
  exact slice_of C hm hz (.int _ _) .none (slicePick_from vs.toArray j (by rw [List.size_toArray]; omega)) k hs
theorem slice_upto {value slice : Expr} (C : Cx w f m news h) (hm : (l, listOf vs.toArray n) ∈ news) (hz : vs.length ≤ 1000) (h0 : 0 ≤ i) (h1 : i ≤ vs.length)
    (k : ∀ D h', Cx w f m ((D, listOf (vs.take i.toNat).toArray 0) :: news) h' → (∀ p ∈ news, p.1 < D) → Q (.ref D) ⟨h', g, d, tk, o⟩) (hs : ∀ sl, subscripted slice false (.ref l) (.ref sl) = operate [.ref sl, .ref l] (getItem (.ref l) (.ref sl))) :
    wpAny (MM w) A (subscriptTail value slice (.ref l) (.ref h.objs.size)) Q E ⟨h.push { cls := .type "slice", data := .fields #[.none, .int i t, .none] }, g, d, tk, o⟩ := by
  obtain ⟨j, rfl⟩ := Int.eq_ofNat_of_zero_le h0
  exact slice_of C hm hz .none (.int _ _) (slicePick_upto vs.toArray j (by rw [List.size_toArray]; omega)) k hs
theorem l_list (C : Cx w f m news h) (hm : (l, listOf vs.toArray n) ∈ news) (hz : vs.length ≤ 1000)
    (k : ∀ D c h', Cx w f m ((D, listOf vs.toArray c) :: news) h' → (∀ p ∈ news, p.1 < D) → Q (.ref D) ⟨h', g, d, tk, o⟩) : wpAny (MM w) A (call (.type "list") [.ref l]) Q E ⟨h, g, d, tk, o⟩ :=
  kup_listOf C.F C.N hm rfl (fun D c h' F' N' l1 => k D c h' (C.to F' N') l1) (size_line hz)

theorem s_eq_int {a b : Int} {t u : Tok} (k : Q (.bool (decide (a = b))) ⟨h, g, d, tk, o⟩) : wpAny (MM w) A (compareOp .Eq (.int a t) (.int b u)) Q E ⟨h, g, d, tk, o⟩ :=
  eq_int (by rw [show (a == b) = decide (a = b) from rfl]; exact k)
theorem s_ne_int {a b : Int} {t u : Tok} (k : Q (.bool (decide (a ≠ b))) ⟨h, g, d, tk, o⟩) : wpAny (MM w) A (compareOp .NotEq (.int a t) (.int b u)) Q E ⟨h, g, d, tk, o⟩ :=
  ne_int (by rw [show (a != b) = decide (a ≠ b) from by rw [bne, show (a == b) = decide (a = b) from rfl, decide_not]]; exact k)

theorem s_mul2 {b : Int} {t u : Tok} (k : Q (.int (2 * b) tk) ⟨h, g, d, tk + 1, o⟩) : wpAny (MM w) A (binaryOp .Mult (.int 2 t) (.int b u)) Q E ⟨h, g, d, tk, o⟩ :=
  mul_int k (IntMulOk.of_left (by decide))

-- calls: f(args), x.m(args)
theorem s_cwf {env : Env} {pos : Pos} {fv : Value} {e : Expr} {rest : List Expr} {s : Shared} (C : Cx w f m news h) (hk : keepIn (Mine.hd.heap_39 w.params) fv = true)
    (k : wpAny M A (spliced (backTo pos (starEach (e :: rest) env))) (fun vs s₁ => (Mine.hd.heap_39 w.params).In s₁.heap ∧ wpAny M A (call fv vs) Q E s₁) E s)
    (h1 : starEach (e :: rest) env = (false, eval e env) :: starEach rest env) (h2 : (backTo pos (starEach rest env)).any (·.1) = false) : wpAny M A (callWith pos fv [] (backTo pos (starEach (e :: rest) env)) []) Q E s := callWith_K C.X hk k h1 h2
theorem s_cwm {env : Env} {pos : Pos} {fv : Value} {e : Expr} {rest : List Expr} {s : Shared} (C : Cx w f m news h) (hk : keepIn (Mine.hd.heap_39 w.params) fv = true)
    (k : wpAny M A (spliced (backTo pos (starEach (e :: rest) env))) (fun vs s₁ => (Mine.hd.heap_39 w.params).In s₁.heap ∧ wpAny M A (call fv (x :: vs)) Q E s₁) E s)
    (h1 : starEach (e :: rest) env = (false, eval e env) :: starEach rest env) (h2 : (backTo pos (starEach rest env)).any (·.1) = false) : wpAny M A (callWith pos fv [x] (backTo pos (starEach (e :: rest) env)) []) Q E s := callWith_K C.X hk k h1 h2
theorem s_cwf0 {env : Env} {pos : Pos} {fv : Value} (C : Cx w f m news h) (hk : keepIn (Mine.hd.heap_39 w.params) fv = true) (k : wpAny M A (call fv []) Q E ⟨h, g, d, tk, o⟩) : wpAny M A (callWith pos fv [] (backTo pos (starEach [] env)) []) Q E ⟨h, g, d, tk, o⟩ :=
  callWith_K0 C.KX hk k
theorem s_cwm0 {env : Env} {pos : Pos} {fv : Value} (C : Cx w f m news h) (hk : keepIn (Mine.hd.heap_39 w.params) fv = true) (k : wpAny M A (call fv [x]) Q E ⟨h, g, d, tk, o⟩) : wpAny M A (callWith pos fv [x] (backTo pos (starEach [] env)) []) Q E ⟨h, g, d, tk, o⟩ :=
  callWith_K0 C.KX hk k
theorem s_cwb {env : Env} {pos : Pos} {id : String} {e : Expr} {rest : List Expr} {s : Shared} (k : wpAny M A (spliced (backTo pos (starEach (e :: rest) env))) (fun vs s₁ => wpAny M A (call (.builtin id) (x :: vs)) Q E s₁) E s)
    (h1 : starEach (e :: rest) env = (false, eval e env) :: starEach rest env) (h2 : (backTo pos (starEach rest env)).any (·.1) = false) : wpAny M A (callWith pos (.builtin id) [x] (backTo pos (starEach (e :: rest) env)) []) Q E s := callWith_method1 k h1 h2

-- tuples
theorem s_tuple (C : Cx w f m news h) (hz : vs.length ≤ 1000) (k : ∀ D h', Cx w f m ((D, tupOf vs) :: news) h' → (∀ p ∈ news, p.1 < D) → Q (.ref D) ⟨h', g, d, tk, o⟩) : wpAny (MM w) A (newTuple vs) Q E ⟨h, g, d, tk, o⟩ :=
  kup_newTuple C.F C.N (fun D h' F' N' l1 => k D h' (C.to F' N') l1) (size_line hz)
theorem s_list (C : Cx w f m news h) (hz : vs.length ≤ 1000) (k : ∀ D h', Cx w f m ((D, listOf vs.toArray 0) :: news) h' → (∀ p ∈ news, p.1 < D) → Q (.ref D) ⟨h', g, d, tk, o⟩) : wpAny (MM w) A (newList vs) Q E ⟨h, g, d, tk, o⟩ :=
  newList_K C.F C.N (fun D h' F' N' l1 => k D h' (C.to F' N') l1) (size_line hz)
theorem s_unpack {env : Env} {elts : List Expr} {k : Nat} {pos : Pos} {t : Addr} (C : Cx w f m news h) (hm : (t, tupOf vs) ∈ news) (hA : A.handled = none) (hl : (assignEach elts env).length = vs.toArray.size) (hs : (assignEach elts env).findIdx? (·.1) = none)
    (c : ∀ h', Cx w f m news h' → wpAny (MM w) A (assignInOrder ((assignEach elts env).map (·.2)) vs) QU E ⟨h', g, d, tk, o⟩) : wpAny (MM w) A (assign (.Tuple elts k pos) env (.ref t)) QU E ⟨h, g, d, tk, o⟩ :=
  unpackN_ C.F C.N ⟨_, C.get hm, rfl, 0, rfl⟩ hA hl hs fun h' F' N' => c h' (C.to F' N')
end

-- THE STEPS (local macros): "m.s" takes one step of a def's body
local macro_rules | `(tactic| walk_at "m.C") => `(tactic| with_reducible assumption)
local macro_rules | `(tactic| walk_at "m.nd") => `(tactic| first | with_reducible assumption | ((with_reducible refine' NodeIn.cons ?h); (case h => walk_at "m.nd")))
local macro_rules | `(tactic| walk_at "m.mem") => `(tactic| first | with_reducible assumption | with_reducible exact List.mem_cons_self | with_reducible exact NodeIn.e (by assumption) | with_reducible exact NodeIn.c (by assumption) | ((with_reducible refine List.mem_cons_of_mem _ ?_); walk_at "m.mem"))
local macro_rules | `(tactic| walk_at "m.len") => `(tactic| first | assumption | omega | (simp only [List.length_append, List.length_cons, List.length_nil, List.length_singleton, List.length_take, List.length_drop, vals_length]; omega))
local macro_rules | `(tactic| walk_at "m.gl") => `(tactic| first | k_is)
local macro_rules | `(tactic| walk_at "m.exec") => `(tactic| first
  | with_reducible refine s_If ?_
  | ((with_reducible refine' wpAny_Assign_Name ?_ ?hs); (case hs => exact rfl))
  | with_reducible refine wpAny_Return_some ?_
  | with_reducible refine wpAny_Return_none ?_
  | ((with_reducible refine' plainObj_wpAny_Assign_Attribute ?_ ?hs); (case hs => exact rfl))
  | ((with_reducible refine' Assign_Tuple ?_ ?hs ?ht); (case hs => exact rfl); (case ht => exact rfl))
  | with_reducible refine s_Assert ?_
  | ((with_reducible refine' wpAny_Expr_any ?_ ?hi ?hs); (case hi => exact rfl); (case hs => exact rfl))
  | ((with_reducible refine' wpAny_Assign_Subscript ?_ ?hs); (case hs => exact rfl))
  | with_reducible refine wpAny_AugAssign_AttributeAny ?_
  | with_reducible refine wpAny_AugAssign_Name ?_
  | with_reducible refine wpAny_Break ?_
  | with_reducible refine wpAny_Continue ?_
  | with_reducible refine wpAny_Pass ?_)
local macro_rules | `(tactic| walk_at "m.name") => `(tactic| first
  | ((with_reducible refine' s_ld ?C ?hv ?_ ?hl ?hd); (case hl => exact rfl); (case C => walk_at "m.C"); (case hv => exact rfl); (case hd => decide))
  | ((with_reducible refine' s_ldg ?C ?e ?_ ?hx ?hd); (case C => walk_at "m.C"); (case e => k_is); (case hx => exact rfl); (case hd => decide))
  | ((with_reducible refine' s_ldb ?C ?e ?hb ?hn ?_ ?hx ?hd); (case C => walk_at "m.C"); (case e => k_is); (case hb => boot_by_name); (case hn => decide); (case hx => exact rfl); (case hd => decide)))
local macro_rules | `(tactic| walk_at "m.eval") => `(tactic| first
  | ((with_reducible show wpAny _ _ (eval (Expr.Name _ _) _) _ _ _); walk_at "m.name")
  | with_reducible refine s_int ?_
  | ((with_reducible refine' MethodCall_ ?_ ?h); (case h => exact rfl))
  | ((with_reducible refine' Call_ ?_ ?h); (case h => exact rfl))
  | ((with_reducible refine' Attribute_Name_ ?_ ?h); (case h => exact rfl))
  | ((with_reducible refine' Attribute_any_ ?_ ?h); (case h => exact rfl))
  | with_reducible refine Subscript_ ?_
  | with_reducible refine wpAny_BinOp ?_
  | ((with_reducible refine' wpAny_Compare1 ?_ ?h); (case h => exact rfl))
  | with_reducible refine Constant_bool ?_
  | with_reducible refine wpAny_Constant_none ?_
  | with_reducible refine UnaryOp_ ?_
  | with_reducible refine s_IfExp ?_
  | with_reducible refine Tuple_ ?_
  | with_reducible refine List_ ?_
  | with_reducible refine s_slice ?_)
local macro_rules | `(tactic| walk_at "m.true") => `(tactic| first
  | ((with_reducible refine' wpAny_isTrue_Compare1 ?_ ?h); (case h => exact rfl))
  | with_reducible refine isTrue_not ?_
  | with_reducible refine s_and ?_
  | with_reducible refine isTrue_and_nil ?_
  | with_reducible refine s_or ?_
  | with_reducible refine isTrue_or_nil ?_
  | ((with_reducible refine' isTrue_plain ?_ ?h); (case h => exact rfl)))
local macro_rules | `(tactic| walk_at "m.if") => `(tactic| first
  | with_reducible refine ifB_true ?_
  | with_reducible refine ifB_false ?_
  | with_reducible refine ifB_not ?_
  | with_reducible refine ifB_pos (by assumption) ?_
  | with_reducible refine ifB_neg (by assumption) ?_
  | with_reducible refine ifB_pos (by omega) ?_
  | with_reducible refine ifB_neg (by omega) ?_)
local macro_rules | `(tactic| walk_at "m.attr") => `(tactic| first
  | with_reducible refine nd_elts (by walk_at "m.C") (by walk_at "m.nd") ?_
  | with_reducible refine nd_children (by walk_at "m.C") (by walk_at "m.nd") ?_
  | with_reducible refine nd_t (by walk_at "m.C") (by walk_at "m.nd") ?_
  | with_reducible refine nd_is_leaf (by walk_at "m.C") (by walk_at "m.nd") ?_
  | with_reducible refine nd_creator (by walk_at "m.C") (by walk_at "m.nd") ?_
  | with_reducible refine el_key (by walk_at "m.C") (by assumption) ?_)
local macro_rules | `(tactic| walk_at "m.meth") => `(tactic| first
  | with_reducible refine em_key (by walk_at "m.C") (by assumption) ?_
  | with_reducible refine nm_is_maximal (by walk_at "m.C") (by walk_at "m.nd") ?_
  | with_reducible refine nm_is_minimal (by walk_at "m.C") (by walk_at "m.nd") ?_
  | with_reducible refine nm_search_in_node (by walk_at "m.C") (by walk_at "m.nd") ?_
  | with_reducible refine nm_maybe_cow_child (by walk_at "m.C") (by walk_at "m.nd") ?_
  | with_reducible refine nm_maybe_cow (by walk_at "m.C") (by walk_at "m.nd") ?_
  | with_reducible refine lm_insert (by walk_at "m.C") (by walk_at "m.mem") ?_
  | with_reducible refine lm_pop (by walk_at "m.C") (by walk_at "m.mem") ?_
  | with_reducible refine lm_append (by walk_at "m.C") (by walk_at "m.mem") ?_
  | with_reducible refine lm_extend (by walk_at "m.C") (by walk_at "m.mem") ?_
  | with_reducible refine nm_get_node (by walk_at "m.C") (by walk_at "m.nd") ?_
  | with_reducible refine nm_get (by walk_at "m.C") (by walk_at "m.nd") ?_
  | with_reducible refine nm_insert_nonfull (by walk_at "m.C") (by walk_at "m.nd") ?_
  | with_reducible refine nm_split (by walk_at "m.C") (by walk_at "m.nd") ?_
  | with_reducible refine nm_try_left_steal (by walk_at "m.C") (by walk_at "m.nd") ?_
  | with_reducible refine nm_try_right_steal (by walk_at "m.C") (by walk_at "m.nd") ?_
  | with_reducible refine nm_adopt (by walk_at "m.C") (by walk_at "m.nd") ?_
  | with_reducible refine nm_merge (by walk_at "m.C") (by walk_at "m.nd") ?_
  | with_reducible refine nm_minimum (by walk_at "m.C") (by walk_at "m.nd") ?_
  | with_reducible refine nm_balance (by walk_at "m.C") (by walk_at "m.nd") ?_
  | with_reducible refine nm_delete (by walk_at "m.C") (by walk_at "m.nd") ?_)
local macro_rules | `(tactic| walk_at "m.cw") => `(tactic| first
  | ((with_reducible refine' PyProof.Rows.callWith_builtin1 ?_ ?h1 ?h2); (case h1 => exact rfl); (case h2 => exact rfl))
  | ((with_reducible refine' s_cwb ?_ ?h1 ?h2); (case h1 => exact rfl); (case h2 => exact rfl))
  | with_reducible refine callWith_method0 ?_
  | ((with_reducible refine' s_cwm ?C ?k ?_ ?h1 ?h2); (case C => walk_at "m.C"); (case k => k_is); (case h1 => exact rfl); (case h2 => exact rfl))
  | ((with_reducible refine' s_cwm0 ?C ?k ?_); (case C => walk_at "m.C"); (case k => k_is))
  | ((with_reducible refine' s_cwf ?C ?k ?_ ?h1 ?h2); (case C => walk_at "m.C"); (case k => k_is); (case h1 => exact rfl); (case h2 => exact rfl))
  | ((with_reducible refine' s_cwf0 ?C ?k ?_); (case C => walk_at "m.C"); (case k => k_is))
  | ((with_reducible refine' PyProof.Rows.callWith_type1 ?_ ?h1 ?h2); (case h1 => exact rfl); (case h2 => exact rfl)))
local macro_rules | `(tactic| walk_at "m.cmp") => `(tactic| first
  | with_reducible refine lt_int ?_
  | with_reducible refine s_eq_int ?_
  | with_reducible refine le_int ?_
  | with_reducible refine gt_int ?_
  | with_reducible refine ge_int ?_
  | with_reducible refine s_ne_int ?_
  | with_reducible refine is_ref_none ?_
  | with_reducible refine isnot_ref_none ?_
  | with_reducible refine is_none_none ?_
  | with_reducible refine isnot_none_none ?_
  | with_reducible refine wpAny_isNot_ref_self ?_)
local macro_rules | `(tactic| walk_at "m.call") => `(tactic| first
  | ((with_reducible refine' l_len ?C ?m ?n ?z ?_); (case C => walk_at "m.C"); (case m => walk_at "m.mem"); (case n => walk_at "m.N"); (case z => walk_at "m.len")))
local macro_rules | `(tactic| walk_at "m.N") => `(tactic| exact rfl)
local macro_rules | `(tactic| walk_at "m.s") => `(tactic| first
  | with_reducible refine s_execs ?_
  | with_reducible refine wpAny_execs_nil ?_
  | ((with_reducible show wpAny _ _ (eval _ _) _ _ _); walk_at "m.eval")
  | ((with_reducible show wpAny _ _ (exec _ _) _ _ _); walk_at "m.exec")
  | ((with_reducible show wpAny _ _ (isTrue _ _ _) _ _ _); walk_at "m.true")
  | ((with_reducible show IfB _ _ _); walk_at "m.if")
  | ((with_reducible show wpAny _ _ (getAttr _ _ _) _ _ _); walk_at "m.attr")
  | ((with_reducible show wpAny _ _ (callWith _ _ _ _ _) _ _ _); walk_at "m.cw")
  | with_reducible refine spliced_none ?_
  | ((with_reducible refine' spliced_more ?_ ?h); (case h => exact rfl))
  | with_reducible refine And.intro (Cx.KX (by walk_at "m.C")) ?_
  | ((with_reducible show wpAny _ _ (call _ _ _) _ _ _); walk_at "m.call")
  | ((with_reducible show wpAny _ _ (getMethod _ _ _) _ _ _); walk_at "m.meth")
  | ((with_reducible show wpAny _ _ (compareOp _ _ _) _ _ _); walk_at "m.cmp")
  | with_reducible refine wpAny_truthy_bool ?_
  | with_reducible refine truthy_none ?_
  | ((with_reducible refine' s_st ?C ?_ ?hl); (case hl => exact rfl); (case C => walk_at "m.C"); intro _ _)
  | with_reducible refine s_sub ?_
  | with_reducible refine s_add ?_
  | with_reducible refine s_iadd ?_
  | with_reducible refine s_isub ?_
  | with_reducible refine s_mul2 ?_
  | ((with_reducible refine' s_half ?h ?_); (case h => omega))
  | with_reducible refine s_part_none ?_
  | with_reducible refine s_part_some ?_
  | with_reducible refine not_of ?_
  | ((with_reducible refine' s_tuple ?C ?z ?_); (case C => walk_at "m.C"); (case z => exact Nat.le_of_ble_eq_true rfl); intro _ _ _ _)
  | ((with_reducible refine' s_list ?C ?z ?_); (case C => walk_at "m.C"); (case z => exact Nat.le_of_ble_eq_true rfl); intro _ _ _ _)
  | with_reducible refine neg_int ?_)
local macro_rules | `(tactic| walk_at "m.end") => `(tactic| ((show Lv _ _ _ _ _ _ _ _ _ _); (refine Lv.intro (by walk_at "m.C") ?_)))
local macro_rules | `(tactic| walk_at "m.slF") => `(tactic| first | ((with_reducible refine' slice_from ?C ?hm ?hz ?h0 ?h1 ?_ ?hs); (case C => walk_at "m.C"); (case hm => walk_at "m.mem"); (case hz => walk_at "m.len"); (case h0 => omega); (case h1 => walk_at "m.len"); (case hs => intro _; exact rfl)))
local macro_rules | `(tactic| walk_at "m.slU") => `(tactic| first | ((with_reducible refine' slice_upto ?C ?hm ?hz ?h0 ?h1 ?_ ?hs); (case C => walk_at "m.C"); (case hm => walk_at "m.mem"); (case hz => walk_at "m.len"); (case h0 => omega); (case h1 => walk_at "m.len"); (case hs => intro _; exact rfl)))
local macro_rules | `(tactic| walk_at "m.list") => `(tactic| first | ((with_reducible refine' l_list ?C ?hm ?hz ?_); (case C => walk_at "m.C"); (case hm => walk_at "m.mem"); (case hz => walk_at "m.len")))
local macro_rules | `(tactic| walk_at "m.setE") => `(tactic| first | ((with_reducible refine' n_setE ?C ?H ?l ?_); (case C => walk_at "m.C"); (case H => walk_at "m.nd"); (case l => walk_at "m.mem")))
local macro_rules | `(tactic| walk_at "m.setC") => `(tactic| first | ((with_reducible refine' n_setC ?C ?H ?l ?_); (case C => walk_at "m.C"); (case H => walk_at "m.nd"); (case l => walk_at "m.mem")))
local macro_rules | `(tactic| walk_at "m.getV") => `(tactic| first | ((with_reducible refine' l_get ?C ?hm ?h0 ?hz ?hx ?_ ?hs); (case C => walk_at "m.C"); (case hm => walk_at "m.mem"); (case h0 => omega); (case hz => walk_at "m.len"); (case hx => assumption); (case hs => exact rfl)))

-- N1
section
variable {w : World} {f : Fm} {m : PySem.Str → Option Value} {news : List (Addr × Obj)} {h : Heap} {E : Value → Shared → Prop}
  {g : Array GenState} {d : Drawn} {tk : Nat} {o : OsState} {Q : Value → Shared → Prop}
variable {n : Addr} {q : NK} {lf : Bool} {vs cs : List Value} {t : Int} {tt : Tok}
theorem c_MIN (C : Cx w f m news h) (hd : f.dp < 1000) (k : ∀ h' tk', Cx w f m news h' → ∀ u, Q (.int (t - 1) u) ⟨h', g, d, tk', o⟩) : wpAny (MM w) (AR f) (call (.ref 239) [.int t tt]) Q E ⟨h, g, d, tk, o⟩ := by
  refine' enter (binds := [("t", .int t tt)]) C ?k6 ?k7 ?kd ?k9 ?kB ?_ ?c2 ?c3 ?c4 ?c5
  (case k6 => k_is); (case k7 => k_is); (case kd => omega); (case k9 => exact rfl); (case kB => exact rfl); (case c2 => exact rfl); (case c3 => exact rfl); (case c4 => exact rfl); (case c5 => decide)
  intro h₀' L' h' C'
  clear C
  repeat walk_at "m.s"
  exact Lv.intro C' fun Cc => k _ _ Cc _
theorem c_MAX (C : Cx w f m news h) (hd : f.dp < 1000) (k : ∀ h' tk', Cx w f m news h' → ∀ u, Q (.int (2 * t - 1) u) ⟨h', g, d, tk', o⟩) : wpAny (MM w) (AR f) (call (.ref 246) [.int t tt]) Q E ⟨h, g, d, tk, o⟩ := by
  refine' enter (binds := [("t", .int t tt)]) C ?k6 ?k7 ?kd ?k9 ?kB ?_ ?c2 ?c3 ?c4 ?c5
  (case k6 => k_is); (case k7 => k_is); (case kd => omega); (case k9 => exact rfl); (case kB => exact rfl); (case c2 => exact rfl); (case c3 => exact rfl); (case c4 => exact rfl); (case c5 => decide)
  intro h₀' L' h' C'
  clear C
  repeat walk_at "m.s"
  exact Lv.intro C' fun Cc => k _ _ Cc _
local macro_rules | `(tactic| walk_at "m.dp") => `(tactic| first | omega | (dsimp only; omega))
local macro_rules | `(tactic| walk_at "m.call") => `(tactic| first
  | ((with_reducible refine' c_MIN ?C ?d ?_); (case C => walk_at "m.C"); (case d => walk_at "m.dp"); intro _ _ _ _)
  | ((with_reducible refine' c_MAX ?C ?d ?_); (case C => walk_at "m.C"); (case d => walk_at "m.dp"); intro _ _ _ _))
theorem c_is_max (C : Cx w f m news h) (H : NodeIn w.params news n q lf vs cs) (hz : (vs.length : Int) ≤ 2 * q.t - 1) (ht : q.t ≤ 5) (hd : f.dp + 1 < 1000) (k : ∀ h' tk', Cx w f m news h' → Q (.bool (decide ((vs.length : Int) = 2 * q.t - 1))) ⟨h', g, d, tk', o⟩) :
    wpAny (MM w) (AR f) (call (.ref 281) [.ref n]) Q E ⟨h, g, d, tk, o⟩ := by
  refine' enter (binds := [("self", .ref n)]) C ?k6 ?k7 ?kd ?k9 ?kB ?_ ?c2 ?c3 ?c4 ?c5
  (case k6 => k_is); (case k7 => k_is); (case kd => omega); (case k9 => exact rfl); (case kB => exact rfl); (case c2 => exact rfl); (case c3 => exact rfl); (case c4 => exact rfl); (case c5 => decide)
  intro h₀' L' h' C'
  clear C
  repeat walk_at "m.s"
  walk_at "m.end"
  exact fun Cc => k _ _ Cc
theorem c_is_min (C : Cx w f m news h) (H : NodeIn w.params news n q lf vs cs) (hz : q.t - 1 ≤ (vs.length : Int)) (hz' : vs.length ≤ 1000) (hd : f.dp + 1 < 1000) (k : ∀ h' tk', Cx w f m news h' → Q (.bool (decide ((vs.length : Int) = q.t - 1))) ⟨h', g, d, tk', o⟩) :
    wpAny (MM w) (AR f) (call (.ref 288) [.ref n]) Q E ⟨h, g, d, tk, o⟩ := by
  refine' enter (binds := [("self", .ref n)]) C ?k6 ?k7 ?kd ?k9 ?kB ?_ ?c2 ?c3 ?c4 ?c5
  (case k6 => k_is); (case k7 => k_is); (case kd => omega); (case k9 => exact rfl); (case kB => exact rfl); (case c2 => exact rfl); (case c3 => exact rfl); (case c4 => exact rfl); (case c5 => decide)
  intro h₀' L' h' C'
  clear C
  repeat walk_at "m.s"
  walk_at "m.end"
  exact fun Cc => k _ _ Cc
theorem c_key {a : Addr} {b : Array UInt8} {tb : Nat} (C : Cx w f m news h) (H : EltB w.params news a b tb) (hd : f.dp < 1000) (k : ∀ h' tk', Cx w f m news h' → Q (.bytes b tb) ⟨h', g, d, tk', o⟩) :
    wpAny (MM w) (AR f) (call (.ref 668) [.ref a]) Q E ⟨h, g, d, tk, o⟩ := by
  refine' enter (binds := [("self", .ref a)]) C ?k6 ?k7 ?kd ?k9 ?kB ?_ ?c2 ?c3 ?c4 ?c5
  (case k6 => k_is); (case k7 => k_is); (case kd => omega); (case k9 => exact rfl); (case kB => exact rfl); (case c2 => exact rfl); (case c3 => exact rfl); (case c4 => exact rfl); (case c5 => decide)
  intro h₀' L' h' C'
  clear C
  repeat walk_at "m.s"
  walk_at "m.end"
  exact fun Cc => k _ _ Cc
end

local macro_rules | `(tactic| walk_at "m.dp") => `(tactic| first | omega | (dsimp only; omega))
local macro_rules | `(tactic| walk_at "m.call") => `(tactic| first
  | ((with_reducible refine' c_MIN ?C ?d ?_); (case C => walk_at "m.C"); (case d => walk_at "m.dp"); intro _ _ _ _)
  | ((with_reducible refine' c_MAX ?C ?d ?_); (case C => walk_at "m.C"); (case d => walk_at "m.dp"); intro _ _ _ _))

-- E1
-- THE OCTETS OF A NUMBER, and their order
open PySem.Builtin in
def ordI : List Int → List Int → Ordering
  | [], [] => .eq
  | [], _ :: _ => .lt
  | _ :: _, [] => .gt
  | x :: xs, y :: ys => if x < y then .lt else if y < x then .gt else ordI xs ys
theorem order_ints : ∀ b c : List UInt8, Builtin.Bytes.order b c = ordI (b.map fun c => (c.toNat : Int)) (c.map fun c => (c.toNat : Int))
  | [], [] => rfl
  | [], _ :: _ => rfl
  | _ :: _, [] => rfl
  | x :: xs, y :: ys => by
    have h1 : (x < y) ↔ ((x.toNat : Int) < (y.toNat : Int)) := by rw [UInt8.lt_iff_toNat_lt]; omega
    have h2 : (x > y) ↔ ((y.toNat : Int) < (x.toNat : Int)) := by show y < x ↔ _; rw [UInt8.lt_iff_toNat_lt]; omega
    simp only [Builtin.Bytes.order, List.map_cons, ordI, order_ints xs ys, h1, h2]
theorem ordI_snoc : ∀ (A B : List Int) (a b : Int), A.length = B.length → ordI (A ++ [a]) (B ++ [b]) = match ordI A B with | .eq => (if a < b then .lt else if b < a then .gt else .eq) | r => r
  | [], [], a, b, _ => rfl
  | x :: A, y :: B, a, b, h => by
    simp only [List.cons_append, ordI]
    by_cases h1 : x < y
    · simp [h1]
    · by_cases h2 : y < x
      · simp [h1, h2]
      · simp only [h1, h2, if_false]
        exact ordI_snoc A B a b (by simpa using h)
  | [], _ :: _, _, _, h => by simp at h
  | _ :: _, [], _, _, h => by simp at h
def cmpI (a b : Int) : Ordering := if a < b then .lt else if b < a then .gt else .eq
theorem ordI_little : ∀ (k : Nat) (x y : Int), 0 ≤ x → 0 ≤ y → x < 256 ^ k → y < 256 ^ k → ordI (KTBy.little k x).reverse (KTBy.little k y).reverse = cmpI x y
  | 0, x, y, h1, h2, h3, h4 => by
    have e : (256 : Int) ^ 0 = 1 := rfl
    rw [e] at h3 h4
    obtain rfl : x = 0 := by omega
    obtain rfl : y = 0 := by omega
    rfl
  | k + 1, x, y, h1, h2, h3, h4 => by
    rw [Int.pow_succ] at h3 h4
    show ordI (x % 256 :: KTBy.little k (x / 256)).reverse (y % 256 :: KTBy.little k (y / 256)).reverse = _
    rw [List.reverse_cons, List.reverse_cons, ordI_snoc _ _ _ _ (by simp [KTBy.little_length]), ordI_little k (x / 256) (y / 256) (by omega) (by omega) (by generalize (256 : Int) ^ k = p at *; omega) (by generalize (256 : Int) ^ k = p at *; omega)]
    unfold cmpI
    by_cases a1 : x / 256 < y / 256
    · have : x < y := by omega
      simp [a1, this]
    · by_cases a2 : y / 256 < x / 256
      · have b1 : ¬ x < y := by omega
        have b2 : y < x := by omega
        simp [a1, a2, b1, b2]
      · simp only [a1, a2, if_false]
        have c1 : (x % 256 < y % 256) ↔ x < y := by omega
        have c2 : (y % 256 < x % 256) ↔ y < x := by omega
        simp only [c1, c2]

/-- how many octets; and the number with its two first binary digits -/
def encN (v : Int) : Nat := if v < 64 then 1 else if v < 16384 then 2 else if v < 1073741824 then 4 else 8
def encV (v : Int) : Int := if v < 64 then v else if v < 16384 then v + 16384 else if v < 1073741824 then v + 2147483648 else v + 13835058055282163712
def encI (v : Int) : List Int := (KTBy.little (encN v) (encV v)).reverse
def Rng (v : Int) : Prop := 0 ≤ v ∧ v < 4611686018427387904
def Enc (b : Array UInt8) (v : Int) : Prop := KBw.bInts b = encI v ∧ Rng v

theorem encI_length (v : Int) : (encI v).length = encN v := by unfold encI; rw [List.length_reverse, KTBy.little_length]
theorem encN_cases (v : Int) (h : Rng v) : (v < 64 ∧ encN v = 1 ∧ encV v = v) ∨ (64 ≤ v ∧ v < 16384 ∧ encN v = 2 ∧ encV v = v + 16384) ∨ (16384 ≤ v ∧ v < 1073741824 ∧ encN v = 4 ∧ encV v = v + 2147483648) ∨ (1073741824 ≤ v ∧ encN v = 8 ∧ encV v = v + 13835058055282163712) := by
  unfold encN encV
  by_cases h1 : v < 64
  · exact .inl ⟨h1, by simp [h1], by simp [h1]⟩
  · by_cases h2 : v < 16384
    · exact .inr (.inl ⟨by omega, h2, by simp [h1, h2], by simp [h1, h2]⟩)
    · by_cases h3 : v < 1073741824
      · exact .inr (.inr (.inl ⟨by omega, h3, by simp [h1, h2, h3], by simp [h1, h2, h3]⟩))
      · exact .inr (.inr (.inr ⟨by omega, by simp [h1, h2, h3], by simp [h1, h2, h3]⟩))
/-- the first octet, and the rest -/
theorem encI_head (v : Int) (h : Rng v) : ∃ x r, encI v = x :: r ∧ (v < 64 → x < 64) ∧ (64 ≤ v → v < 16384 → 64 ≤ x ∧ x < 128) ∧ (16384 ≤ v → v < 1073741824 → 128 ≤ x ∧ x < 192) ∧ (1073741824 ≤ v → 192 ≤ x) := by
  obtain ⟨h0, h1⟩ := h
  rcases encN_cases v ⟨h0, h1⟩ with ⟨a, e1, e2⟩ | ⟨a, b, e1, e2⟩ | ⟨a, b, e1, e2⟩ | ⟨a, e1, e2⟩
  · exact ⟨v % 256, [], by unfold encI; rw [e1, e2]; rfl, by omega, by omega, by omega, by omega⟩
  · exact ⟨(v + 16384) / 256 % 256, [(v + 16384) % 256], by unfold encI; rw [e1, e2]; rfl, by omega, by omega, by omega, by omega⟩
  · exact ⟨(v + 2147483648) / 256 / 256 / 256 % 256, [(v + 2147483648) / 256 / 256 % 256, (v + 2147483648) / 256 % 256, (v + 2147483648) % 256], by unfold encI; rw [e1, e2]; rfl, by omega, by omega, by omega, by omega⟩
  · refine ⟨(v + 13835058055282163712) / 256 / 256 / 256 / 256 / 256 / 256 / 256 % 256, [(v + 13835058055282163712) / 256 / 256 / 256 / 256 / 256 / 256 % 256, (v + 13835058055282163712) / 256 / 256 / 256 / 256 / 256 % 256, (v + 13835058055282163712) / 256 / 256 / 256 / 256 % 256, (v + 13835058055282163712) / 256 / 256 / 256 % 256, (v + 13835058055282163712) / 256 / 256 % 256, (v + 13835058055282163712) / 256 % 256, (v + 13835058055282163712) % 256], by unfold encI; rw [e1, e2]; rfl, by omega, by omega, by omega, by omega⟩
theorem encI_ord (a b : Int) (ha : Rng a) (hb : Rng b) : ordI (encI a) (encI b) = cmpI a b := by
  by_cases hn : encN a = encN b
  · have hc : cmpI (encV a) (encV b) = cmpI a b := by
      rcases encN_cases a ha with ⟨_, e1, e2⟩ | ⟨_, _, e1, e2⟩ | ⟨_, _, e1, e2⟩ | ⟨_, e1, e2⟩ <;> rcases encN_cases b hb with ⟨_, f1, f2⟩ | ⟨_, _, f1, f2⟩ | ⟨_, _, f1, f2⟩ | ⟨_, f1, f2⟩ <;> first | (exfalso; omega) | (rw [e2, f2]; done) | (rw [e2, f2]; unfold cmpI; simp only [Int.add_lt_add_iff_right])
    have hv : ∀ v, Rng v → 0 ≤ encV v ∧ encV v < 256 ^ encN v := by
      intro v hv
      obtain ⟨h0, h1⟩ := hv
      rcases encN_cases v ⟨h0, h1⟩ with ⟨_, e1, e2⟩ | ⟨_, _, e1, e2⟩ | ⟨_, _, e1, e2⟩ | ⟨_, e1, e2⟩ <;> rw [e1, e2] <;> omega
    unfold encI
    rw [← hn, ordI_little _ _ _ (hv a ha).1 (hv b hb).1 (hv a ha).2 (by rw [hn]; exact (hv b hb).2), hc]
  · obtain ⟨x, r, ea, x1, x2, x3, x4⟩ := encI_head a ha
    obtain ⟨y, s, eb, y1, y2, y3, y4⟩ := encI_head b hb
    obtain ⟨a0, a1⟩ := ha
    obtain ⟨b0, b1⟩ := hb
    rw [ea, eb]
    unfold ordI cmpI
    rcases encN_cases a ⟨a0, a1⟩ with ⟨_, e1, _⟩ | ⟨_, _, e1, _⟩ | ⟨_, _, e1, _⟩ | ⟨_, e1, _⟩ <;> rcases encN_cases b ⟨b0, b1⟩ with ⟨_, f1, _⟩ | ⟨_, _, f1, _⟩ | ⟨_, _, f1, _⟩ | ⟨_, f1, _⟩ <;> first
      | (exfalso; omega)
      | (have q1 : x < y := by omega
         have q2 : a < b := by omega
         rw [if_pos q1, if_pos q2])
      | (have q1 : ¬ x < y := by omega
         have q2 : ¬ a < b := by omega
         have q3 : y < x := by omega
         have q4 : b < a := by omega
         rw [if_neg q1, if_neg q2, if_pos q3, if_pos q4])
theorem encI_inj (a b : Int) (ha : Rng a) (hb : Rng b) (e : encI a = encI b) : a = b := by
  have h1 := encI_ord a b ha hb
  have h2 := encI_ord a a ha ha
  rw [← e, h2] at h1
  unfold cmpI at h1
  rw [if_neg (by omega), if_neg (by omega)] at h1
  by_cases q1 : a < b
  · rw [if_pos q1] at h1; cases h1
  · by_cases q2 : b < a
    · rw [if_neg q1, if_pos q2] at h1; cases h1
    · omega
theorem bInts_inj {b c : Array UInt8} (e : KBw.bInts b = KBw.bInts c) : b = c := by
  have e' : b.toList.map (fun c => (c.toNat : Int)) = c.toList.map fun c => (c.toNat : Int) := e
  have inj : ∀ x y : UInt8, ((x.toNat : Int) = (y.toNat : Int)) → x = y := fun x y h => UInt8.toNat_inj.mp (by omega)
  exact Array.toList_inj.mp ((List.map_inj_right fun x y h => inj x y h).mp e')
theorem Enc.order {b c : Array UInt8} {x y : Int} (h1 : Enc b x) (h2 : Enc c y) : Builtin.Bytes.order b.toList c.toList = cmpI x y := by
  rw [order_ints, ← encI_ord x y h1.2 h2.2, ← h1.1, ← h2.1]; rfl
theorem Enc.lt {b c : Array UInt8} {x y : Int} (h1 : Enc b x) (h2 : Enc c y) : (Builtin.Bytes.order b.toList c.toList == .lt) = decide (x < y) := by
  rw [h1.order h2]; unfold cmpI
  by_cases q1 : x < y
  · simp [q1]
  · by_cases q2 : y < x <;> simp [q1, q2]
theorem Enc.gt {b c : Array UInt8} {x y : Int} (h1 : Enc b x) (h2 : Enc c y) : (Builtin.Bytes.order b.toList c.toList == .gt) = decide (y < x) := by
  rw [h1.order h2]; unfold cmpI
  by_cases q1 : x < y
  · have : ¬ y < x := by omega
    simp [q1, this]
  · by_cases q2 : y < x <;> simp [q1, q2]
theorem Enc.eq {b c : Array UInt8} {x y : Int} (h1 : Enc b x) (h2 : Enc c y) : (b.toList == c.toList) = decide (x = y) := by
  rw [Bool.eq_iff_iff]
  simp only [beq_iff_eq, decide_eq_true_eq]
  constructor
  · intro e
    exact encI_inj x y h1.2 h2.2 (by rw [← h1.1, ← h2.1]; unfold KBw.bInts; rw [e])
  · rintro rfl
    rw [bInts_inj (h1.1.trans h2.1.symm)]

section
variable {w : World} {f : Fm} {m : PySem.Str → Option Value} {news : List (Addr × Obj)} {h : Heap} {E : Value → Shared → Prop}
  {g : Array GenState} {d : Drawn} {tk : Nat} {o : OsState} {Q : Value → Shared → Prop}
variable {A : Around} {b c : Array UInt8} {x y : Int} {t u : Tok}
theorem s_lt_key (h1 : Enc b x) (h2 : Enc c y) (k : Q (.bool (decide (x < y))) ⟨h, g, d, tk, o⟩) : wpAny (MM w) A (compareOp .Lt (.bytes b t) (.bytes c u)) Q E ⟨h, g, d, tk, o⟩ := lt_bytes (by rw [h1.lt h2]; exact k)
theorem s_gt_key (h1 : Enc b x) (h2 : Enc c y) (k : Q (.bool (decide (y < x))) ⟨h, g, d, tk, o⟩) : wpAny (MM w) A (compareOp .Gt (.bytes b t) (.bytes c u)) Q E ⟨h, g, d, tk, o⟩ := gt_bytes (by rw [h1.gt h2]; exact k)
theorem s_eq_key (h1 : Enc b x) (h2 : Enc c y) (k : Q (.bool (decide (x = y))) ⟨h, g, d, tk, o⟩) : wpAny (MM w) A (compareOp .Eq (.bytes b t) (.bytes c u)) Q E ⟨h, g, d, tk, o⟩ := eq_bytes (by rw [h1.eq h2]; exact k)
end

-- A while BY AN INVARIANT
section
variable {prog : Program} {w : World} {A : Around} {s : Shared} {env : Env} {test : Expr} {body orelse : List Stmt} {Q : Flow → Shared → Prop}
theorem wh_rest (I : Nat → Shared → Prop) (turn : ∀ n s, I n s → wpAny (model prog w) A (isTrue test env (eval test env)) (fun b s₂ => IfB b
      (wpAny (model prog w) A (execs body env) (fun fl s₃ => match fl with | .next => ∃ k, k < n ∧ I k s₃ | .cont => ∃ k, k < n ∧ I k s₃ | .brk => Q .next s₃ | .ret v => Q (.ret v) s₃) (fun _ _ => False) s₂)
      (wpAny (model prog w) A (execs orelse env) Q (fun _ _ => False) s₂)) (fun _ _ => False) s) :
    ∀ n s, I n s → WhlRest prog w A (fun _ _ => False) env test body orelse Q 1 s := by
  intro n
  induction n using Nat.strongRecOn with
  | ind n ih =>
    intro s hI
    refine whl_turn (k := 0) (fun _ _ z => z.elim) (wpAny_mono (turn n s hI) (fun b s₂ z => ?_) fun _ _ z => z)
    cases b with
    | false => exact WhlIf.no rfl z
    | true =>
      refine WhlIf.yes rfl (wpAny_mono z (fun fl s₃ y => ?_) fun _ _ z => z)
      cases fl with
      | next => obtain ⟨k, hk, hI'⟩ := y; exact ih k hk s₃ hI'
      | cont => obtain ⟨k, hk, hI'⟩ := y; exact ih k hk s₃ hI'
      | brk => exact y
      | ret v => exact y
theorem s_while (I : Nat → Shared → Prop) (n : Nat) {pos : Pos} (hI : I n s) (turn : ∀ n s, I n s → wpAny (model prog w) A (isTrue test env (eval test env)) (fun b s₂ => IfB b
      (wpAny (model prog w) A (execs body env) (fun fl s₃ => match fl with | .next => ∃ k, k < n ∧ I k s₃ | .cont => ∃ k, k < n ∧ I k s₃ | .brk => Q .next s₃ | .ret v => Q (.ret v) s₃) (fun _ _ => False) s₂)
      (wpAny (model prog w) A (execs orelse env) Q (fun _ _ => False) s₂)) (fun _ _ => False) s) :
    wpAny (model prog w) A (exec (.While test body orelse pos) env) Q (fun _ _ => False) s := whl_start 1 (wh_rest I turn n s hI)
end
/-- the frame of a context -/
abbrev Cx.fr {w : World} {f : Fm} {m : PySem.Str → Option Value} {news : List (Addr × Obj)} {h : Heap} (_ : Cx w f m news h) : Fm := f
/-- the frame's map holds these -/
def Binds (m : PySem.Str → Option Value) : List (PySem.Str × Value) → Prop
  | [] => True
  | (x, v) :: r => m x = some v ∧ Binds m r
theorem binds_lookup {m : PySem.Str → Option Value} : ∀ {l : List (PySem.Str × Value)}, Binds m l → ∀ {y : PySem.Str} {v : Value}, l.lookup y = some v → m y = some v
  | (x, u) :: r, ⟨h1, h2⟩, y, v, e => by
    rw [List.lookup_cons] at e
    by_cases hy : (y == x) = true
    · rw [hy] at e
      cases e
      rw [beq_iff_eq.mp hy]
      exact h1
    · rw [Bool.not_eq_true] at hy
      rw [hy] at e
      exact binds_lookup h2 e
theorem Cx.pins {w : World} {f : Fm} {m : PySem.Str → Option Value} {news : List (Addr × Obj)} {h : Heap} {l : List (PySem.Str × Value)} (C : Cx w f m news h) (hB : Binds m l) : Cx w f (fun y => (l.lookup y).or (m y)) news h := by
  have e : (fun y => (l.lookup y).or (m y)) = m := by
    funext y
    cases hy : l.lookup y with
    | none => rfl
    | some v => rw [binds_lookup hB hy]; rfl
  rw [e]; exact C

-- S1
-- ELEMENTS: a Member's place and its number
def vals (es : List (Addr × Int)) : List Value := es.map fun e => .ref e.1
theorem vals_length (es : List (Addr × Int)) : (vals es).length = es.length := List.length_map ..
theorem vals_get {es : List (Addr × Int)} {i : Nat} {e : Addr × Int} (h : es[i]? = some e) : (vals es)[i]? = some (.ref e.1) := by unfold vals; rw [List.getElem?_map, h]; rfl
def IsE (P : Params) (news : List (Addr × Obj)) (e : Addr × Int) : Prop := ∃ b tb, EltB P news e.1 b tb ∧ Enc b e.2
theorem IsE.mono {P : Params} {news news' : List (Addr × Obj)} {e : Addr × Int} (H : IsE P news e) (k : ∀ p ∈ news, p ∈ news') : IsE P news' e := let ⟨b, tb, h1, h2⟩ := H; ⟨b, tb, h1.mono k, h2⟩
def Asc (es : List (Addr × Int)) : Prop := es.Pairwise fun a b => a.2 < b.2
theorem Asc.lt {es : List (Addr × Int)} (h : Asc es) {i j : Nat} {a b : Addr × Int} (hi : es[i]? = some a) (hj : es[j]? = some b) (hij : i < j) : a.2 < b.2 := by
  obtain ⟨h1, rfl⟩ := List.getElem?_eq_some_iff.mp hi
  obtain ⟨h2, rfl⟩ := List.getElem?_eq_some_iff.mp hj
  exact List.pairwise_iff_getElem.mp h i j h1 h2 hij
theorem Asc.le {es : List (Addr × Int)} (h : Asc es) {i j : Nat} {a b : Addr × Int} (hi : es[i]? = some a) (hj : es[j]? = some b) (hij : i ≤ j) : a.2 ≤ b.2 := by
  rcases Nat.lt_or_eq_of_le hij with hl | rfl
  · exact Int.le_of_lt (h.lt hi hj hl)
  · rw [hi] at hj; cases hj; exact Int.le_refl _

/-- what search_in_node hands back -/
def Found (es : List (Addr × Int)) (k0 : Int) (i : Nat) (eq : Bool) : Prop :=
  i ≤ es.length ∧ (∀ j e, j < i → es[j]? = some e → e.2 < k0) ∧ (eq = true → ∃ e, es[i]? = some e ∧ e.2 = k0) ∧ (eq = false → ∀ j e, i ≤ j → es[j]? = some e → k0 < e.2)

section
variable {w : World} {f : Fm} {m : PySem.Str → Option Value} {news : List (Addr × Obj)} {h : Heap} {E : Value → Shared → Prop}
  {g : Array GenState} {d : Drawn} {tk : Nat} {o : OsState} {Q : Value → Shared → Prop}
variable {A : Around} {n : Addr} {q : NK} {lf : Bool} {es : List (Addr × Int)} {cs : List Value} {kb : Array UInt8} {tb : Tok} {k0 : Int} {i : Int} {t : Tok}
theorem l_getE {value slice : Expr} (C : Cx w f m news h) (H : NodeIn w.params news n q lf (vals es) cs) (h0 : 0 ≤ i) (h1 : i < es.length) (hz : es.length ≤ 100) (k : ∀ e, es[i.toNat]? = some e → Q (.ref e.1) ⟨h, g, d, tk, o⟩)
    (hs : subscripted slice false (.ref q.le) (.int i t) = operate [.ref q.le, .int i t] (getItem (.ref q.le) (.int i t))) :
    wpAny (MM w) A (subscriptTail value slice (.ref q.le) (.int i t)) Q E ⟨h, g, d, tk, o⟩ := by
  have hl : i.toNat < es.length := by omega
  have hg : es[i.toNat]? = some es[i.toNat] := List.getElem?_eq_getElem hl
  exact l_get C H.e h0 (by rw [vals_length]; omega) (vals_get hg) (k _ hg) hs
local macro_rules | `(tactic| walk_at "m.N") => `(tactic| first | exact vals_length _ | exact rfl)
local macro_rules | `(tactic| walk_at "m.call") => `(tactic| ((with_reducible refine' c_key ?C ?H ?d ?_); (case C => walk_at "m.C"); (case H => assumption); (case d => walk_at "m.dp"); intro _ _ _))
local macro_rules | `(tactic| walk_at "m.cmp") => `(tactic| first
  | with_reducible refine s_gt_key (by assumption) (by assumption) ?_
  | with_reducible refine s_eq_key (by assumption) (by assumption) ?_
  | with_reducible refine s_lt_key (by assumption) (by assumption) ?_)
local macro_rules | `(tactic| walk_at "m.getE") => `(tactic| ((with_reducible refine' l_getE ?C ?H ?h0 ?h1 ?hz ?_ ?hs); (case C => walk_at "m.C"); (case H => walk_at "m.nd"); (case h0 => omega); (case h1 => omega); (case hz => omega); (case hs => exact rfl)))
def SrchI (w : World) (fr : Fm) (news : List (Addr × Obj)) (g : Array GenState) (d : Drawn) (o : OsState) (n : Addr) (es : List (Addr × Int)) (kb : Array UInt8) (tb : Tok) (k0 : Int) (k : Nat) (s : Shared) : Prop :=
  ∃ h1 tk1 m1 l r u1 u2 u3, s = ⟨h1, g, d, tk1, o⟩ ∧ Cx w fr m1 news h1 ∧ Binds m1 [("self", .ref n), ("key", .bytes kb tb), ("l", .int l u1), ("r", .int r u2), ("i", .int (r + 1) u3), ("equal", .bool false)] ∧
    0 ≤ l ∧ l ≤ r + 1 ∧ r < es.length ∧ (∀ (j : Nat) e, (j : Int) < l → es[j]? = some e → e.2 < k0) ∧ (∀ (j : Nat) e, r < (j : Int) → es[j]? = some e → k0 < e.2) ∧ k = (r + 1 - l).toNat
theorem c_search (C : Cx w f m news h) (H : NodeIn w.params news n q lf (vals es) cs) (HE : ∀ e ∈ es, IsE w.params news e) (hs : Asc es) (hk : Enc kb k0) (hz : es.length ≤ 100) (hd : f.dp + 1 < 1000)
    (k : ∀ h' tk' T i eq u, Found es k0 i eq → Cx w f m ((T, tupOf [.int (i : Nat) u, .bool eq]) :: news) h' → (∀ p ∈ news, p.1 < T) → Q (.ref T) ⟨h', g, d, tk', o⟩) :
    wpAny (MM w) (AR f) (call (.ref 295) [.ref n, .bytes kb tb]) Q E ⟨h, g, d, tk, o⟩ := by
  refine' enter (binds := [("self", .ref n), ("key", .bytes kb tb)]) C ?k6 ?k7 ?kd ?k9 ?kB ?_ ?c2 ?c3 ?c4 ?c5
  (case k6 => k_is); (case k7 => k_is); (case kd => omega); (case k9 => exact rfl); (case kB => exact rfl); (case c2 => exact rfl); (case c3 => exact rfl); (case c4 => exact rfl); (case c5 => decide)
  intro h₀' L' h' C'
  clear C
  repeat walk_at "m.s"
  refine ifB_dec (fun h1 => ?_) (fun h1 => ?_)
  repeat walk_at "m.s"
  walk_at "m.getE"
  intro e he
  obtain ⟨b, tb', hB, hb⟩ := HE e (List.mem_of_getElem? he)
  repeat walk_at "m.s"
  refine ifB_dec (fun h2 => ?_) (fun h2 => ?_)
  · repeat walk_at "m.s"
    walk_at "m.end"
    refine fun Cc => k _ _ _ es.length false _ ⟨Nat.le_refl _, fun j e' hj he' => ?_, fun z => (nomatch z), fun _ j e' hj he' => ?_⟩ Cc (by assumption)
    · exact Int.lt_of_le_of_lt (hs.le he' he (by omega)) h2
    · have := (List.getElem?_eq_some_iff.mp he').1
      omega
  all_goals (
    repeat walk_at "m.s"
    clear h1
    refine s_while (SrchI w C'.fr news g d o n es kb tb k0) es.length ⟨_, _, _, 0, (es.length : Int) - 1, _, _, _, rfl, by assumption, ⟨rfl, rfl, rfl, rfl, by rw [Int.sub_add_cancel]; rfl, rfl, trivial⟩, by omega, by omega, by omega, fun j e hj _ => absurd hj (by omega), fun j e hj he => absurd hj (by have := (List.getElem?_eq_some_iff.mp he).1; omega), by omega⟩ ?_
    rintro kk s ⟨h3, tk3, m3, l, r, u1, u2, u3, rfl, C3, eB, b1, b2, b3, lo, hi, rfl⟩
    replace C3 := C3.pins eB
    repeat walk_at "m.s"
    refine ifB_dec (fun h2 => ?_) (fun h2 => ?_)
    · repeat walk_at "m.s"
      walk_at "m.getE"
      intro e he
      obtain ⟨b, tb', hB, hb⟩ := HE e (List.mem_of_getElem? he)
      obtain ⟨mm, hmm⟩ := Int.eq_ofNat_of_zero_le (a := (l + r) / 2) (by omega)
      have hmt : ((l + r) / 2).toNat = mm := by omega
      rw [hmt] at he
      repeat walk_at "m.s"
      refine ifB_dec (fun h5 => ?_) (fun h5 => ?_)
      · repeat walk_at "m.s"
        walk_at "m.end"
        intro Cc
        rw [hmm] at Cc
        exact k _ _ _ mm true _ ⟨by omega, fun j e' hj he' => h5 ▸ hs.lt he' he hj, fun _ => ⟨e, he, h5.symm⟩, fun z => (nomatch z)⟩ Cc (by assumption)
      · repeat walk_at "m.s"
        refine ifB_dec (fun h6 => ?_) (fun h6 => ?_)
        · repeat walk_at "m.s"
          exact ⟨_, by omega, _, _, _, l, (l + r) / 2 - 1, _, _, _, rfl, by assumption, ⟨rfl, rfl, rfl, rfl, by rw [Int.sub_add_cancel]; rfl, rfl, trivial⟩, by omega, by omega, by omega, lo, fun j e' hj he' => Int.lt_of_lt_of_le h6 (hs.le he he' (by omega)), rfl⟩
        · repeat walk_at "m.s"
          exact ⟨_, by omega, _, _, _, (l + r) / 2 + 1, r, _, _, _, rfl, by assumption, ⟨rfl, rfl, rfl, rfl, rfl, rfl, trivial⟩, by omega, by omega, by omega, fun j e' hj he' => Int.lt_of_le_of_lt (hs.le he' he (by omega)) (by omega), hi, rfl⟩
    · repeat walk_at "m.s"
      walk_at "m.end"
      intro Cc
      obtain ⟨mm, hmm⟩ := Int.eq_ofNat_of_zero_le (a := r + 1) (by omega)
      rw [hmm] at Cc
      exact k _ _ _ mm false _ ⟨by omega, fun j e' hj he' => lo j e' (by omega) he', fun z => (nomatch z), fun _ j e' hj he' => hi j e' (by omega) he'⟩ Cc (by assumption))
end

local macro_rules | `(tactic| walk_at "m.N") => `(tactic| first | exact vals_length _ | exact rfl)
local macro_rules | `(tactic| walk_at "m.call") => `(tactic| ((with_reducible refine' c_key ?C ?H ?d ?_); (case C => walk_at "m.C"); (case H => assumption); (case d => walk_at "m.dp"); intro _ _ _))
local macro_rules | `(tactic| walk_at "m.cmp") => `(tactic| first
  | with_reducible refine s_gt_key (by assumption) (by assumption) ?_
  | with_reducible refine s_eq_key (by assumption) (by assumption) ?_
  | with_reducible refine s_lt_key (by assumption) (by assumption) ?_)
local macro_rules | `(tactic| walk_at "m.getE") => `(tactic| ((with_reducible refine' l_getE ?C ?H ?h0 ?h1 ?hz ?_ ?hs); (case C => walk_at "m.C"); (case H => walk_at "m.nd"); (case h0 => omega); (case h1 => omega); (case hz => omega); (case hs => exact rfl)))

local macro_rules | `(tactic| walk_at "m.len") => `(tactic| first | assumption | omega | (simp only [List.length_append, List.length_cons, List.length_nil, List.length_singleton, List.length_take, List.length_drop, vals_length]; omega))

-- D1
-- LEDGER CHANGES
def frz (x : Obj) : Bool := match x.data with
  | .plain => true
  | .dict es _ => es.size == 1
  | .seq _ _ => x.cls == .type "tuple"
  | _ => false
/-- from news to news' nothing but the cells fp was turned; the cells fp' are of fp or new -/
structure Ch (news : List (Addr × Obj)) (fp : List Addr) (news' : List (Addr × Obj)) (fp' : List Addr) : Prop where
  frm : ∀ b x, (b, x) ∈ news → (frz x = true ∨ b ∉ fp) → (b, x) ∈ news'
  new : ∀ b ∈ fp', b ∈ fp ∨ ∀ x, (b, x) ∉ news
theorem Ch.refl {news : List (Addr × Obj)} {fp : List Addr} : Ch news fp news fp := ⟨fun _ _ h _ => h, fun _ h => .inl h⟩
theorem Ch.trans {n1 n2 n3 : List (Addr × Obj)} {f1 f2 f3 : List Addr} (a : Ch n1 f1 n2 f2) (b : Ch n2 f2 n3 f3) : Ch n1 f1 n3 f3 := by
  obtain ⟨a1, a2⟩ := a
  obtain ⟨b1, b2⟩ := b
  constructor
  · intro x y h1 h2
    refine b1 x y (a1 x y h1 h2) ?_
    rcases h2 with h2 | h2
    · exact .inl h2
    · exact .inr fun h3 => (a2 x h3).elim h2 fun h4 => h4 y h1
  · intro x h1
    rcases b2 x h1 with h2 | h2
    · exact a2 x h2
    · by_cases h3 : x ∈ f1
      · exact .inl h3
      · exact .inr fun y hy => h2 y (a1 x y hy (.inr h3))
theorem Ch.weak {n1 n2 : List (Addr × Obj)} {f1 f2 g1 g2 : List Addr} (a : Ch n1 f1 n2 f2) (h1 : ∀ b ∈ f1, b ∈ g1) (h2 : ∀ b ∈ g2, b ∈ f2 ∨ b ∈ g1) : Ch n1 g1 n2 g2 :=
  ⟨fun b x h k => a.frm b x h (k.imp id fun q z => q (h1 b z)), fun b h => (h2 b h).elim (fun q => (a.new b q).imp (h1 b) id) .inl⟩
theorem Ch.sub {n1 n2 n3 : List (Addr × Obj)} {f1 f2 : List Addr} (a : Ch n1 f1 n2 f2) (k : ∀ p ∈ n2, p ∈ n3) : Ch n1 f1 n3 f2 := ⟨fun b x h q => k _ (a.frm b x h q), a.new⟩
theorem Ch.keep {n1 n2 : List (Addr × Obj)} {f1 f2 : List Addr} (a : Ch n1 f1 n2 f2) {b : Addr} {x : Obj} (h : (b, x) ∈ n1) (k : b ∉ f1) : (b, x) ∈ n2 := a.frm b x h (.inr k)
theorem Ch.keepF {n1 n2 : List (Addr × Obj)} {f1 f2 : List Addr} (a : Ch n1 f1 n2 f2) {b : Addr} {x : Obj} (h : (b, x) ∈ n1) (k : frz x = true) : (b, x) ∈ n2 := a.frm b x h (.inl k)
theorem Ch.none {n1 n2 : List (Addr × Obj)} (k : ∀ p ∈ n1, p ∈ n2) : Ch n1 [] n2 [] := ⟨fun b x h _ => k _ h, fun b h => (nomatch h)⟩
/-- one object turned -/
theorem Ch.up {w : World} {f : Fm} {m : PySem.Str → Option Value} {news : List (Addr × Obj)} {h : Heap} {D : Addr} {ob o' : Obj} (C : Cx w f m news h) (hm : (D, ob) ∈ news) (hz : frz ob = false) : Ch news [D] (up D o' news) [D] := by
  refine ⟨fun b x hb hk => ?_, fun b hb => .inl hb⟩
  refine mem_up hb fun e => ?_
  subst e
  rcases hk with hk | hk
  · rw [C.same hb hm, hz] at hk; cases hk
  · exact hk (.head _)
theorem Ch.disj {n1 n2 : List (Addr × Obj)} {f1 f2 R : List Addr} (a : Ch n1 f1 n2 f2) (hd : ∀ b ∈ f1, b ∉ R) (hR : ∀ b ∈ R, ∃ x, (b, x) ∈ n1) : ∀ b ∈ f2, b ∉ R := fun b hb hr => by
  rcases a.new b hb with h | h
  · exact hd b h hr
  · obtain ⟨x, hx⟩ := hR b hr; exact h x hx

theorem NodeIn.ch {P : Params} {n1 n2 : List (Addr × Obj)} {f1 f2 : List Addr} {n : Addr} {q : NK} {lf : Bool} {vs cs : List Value} (H : NodeIn P n1 n q lf vs cs) (a : Ch n1 f1 n2 f2) (h1 : q.dn ∉ f1) (h2 : q.le ∉ f1) (h3 : q.lc ∉ f1) : NodeIn P n2 n q lf vs cs :=
  ⟨a.keepF H.i rfl, a.keep H.d h1, a.keep H.e h2, a.keep H.c h3⟩
theorem EltB.ch {P : Params} {n1 n2 : List (Addr × Obj)} {f1 f2 : List Addr} {a : Addr} {b : Array UInt8} {tb : Nat} (H : EltB P n1 a b tb) (c : Ch n1 f1 n2 f2) : EltB P n2 a b tb :=
  let ⟨da, k, h1, h2⟩ := H; ⟨da, k, c.keepF h1 rfl, c.keepF h2 rfl⟩
theorem IsE.ch {P : Params} {n1 n2 : List (Addr × Obj)} {f1 f2 : List Addr} {e : Addr × Int} (H : IsE P n1 e) (c : Ch n1 f1 n2 f2) : IsE P n2 e := let ⟨b, tb, h1, h2⟩ := H; ⟨b, tb, h1.ch c, h2⟩

-- N2
section
variable {w : World} {f : Fm} {m : PySem.Str → Option Value} {news : List (Addr × Obj)} {h : Heap} {E : Value → Shared → Prop}
  {g : Array GenState} {d : Drawn} {tk : Nat} {o : OsState} {Q : Value → Shared → Prop}
variable {A : Around} {n : Addr} {q : NK} {lf : Bool} {vs cs : List Value} {es : List (Addr × Int)} {i : Int} {t : Tok} {dn : Addr}
theorem s_eq_node (C : Cx w f m news h) (hm : (n, instObj 424 dn) ∈ news) (hd : f.dp < 1000) (k : Q (.bool true) ⟨h, g, d, tk, o⟩) : wpAny (MM w) (AR f) (compareOp .Eq (.ref n) (.ref n)) Q E ⟨h, g, d, tk, o⟩ := by
  have X := C.KX
  have ok : nsOkIn (Mine.hd.heap_39 w.params) 423 = true := by kernel_rfl
  have hu := C.u
  refine compareOp_eq_same PySem.F.cmp_object (C := 424) ⟨_, _, _, 423, _, _, _, _, _, _, _, _, _, _, _, _, _, h.nsMap 423, C.get hm, rfl, X _ _ (by k_is), .of_isNs (isNs_of_in X ok), nsMap_none_of_in X ok (by k_is), nsMap_none_of_in X ok (by k_is)⟩ (by show f.un < 9900; omega) k

/-- an attribute of an object made by the call, its dict written out -/
theorem s_setU {x Cc dx : Addr} {ee ee' : List DictEntry} {nn nn' : Nat} {name : PySem.Str} {v : Value} {news' : List (Addr × Obj)} {QU : Unit → Shared → Prop} (C : Cx w f m news h) (hi : (x, instObj Cc dx) ∈ news) (hd : (dx, dictOf ee nn) ∈ news)
    (hs : findIn (Mine.hd.heap_39 w.params) (.ref Cc) "__setattr__" = some (some (.builtin "object.__setattr__"))) (hp : plainOver (Mine.hd.heap_39 w.params) Cc = true) (ht : takerIn (Mine.hd.heap_39 w.params) Cc name = some none) (hh : hasDictIn (Mine.hd.heap_39 w.params) Cc = true) (hl : (getL name ee).isSome = true)
    (e : (putL name (PyData.keyHash w.params name) (.str name (tk + 1)) v ee, putN name ee nn) = (ee', nn')) (U : Upd dx (dictOf ee nn) (dictOf ee' nn') news news') (hz : ee'.length ≤ 1000)
    (k : ∀ h', Cx w f m news' h' → QU () ⟨h', g, d, tk + 2, o⟩) : wpAny (MM w) A (setAttr (.ref x) name v) QU E ⟨h, g, d, tk, o⟩ :=
  set_dict C.F C.X C.N (InstAt.of_news C.N hi hd) rfl hs hp ht hh hl e U hz fun h' F' N' => k h' (C.to F' N')
theorem upd_here {dx : Addr} {o o' : Obj} {news : List (Addr × Obj)} (l : ∀ p ∈ news, p.1 < dx) : Upd dx o o' ((dx, o) :: news) ((dx, o') :: news) := .head fun p hp => Nat.ne_of_lt (l p hp)
theorem ne_above {l D : Addr} {ob : Obj} {L : List (Addr × Obj)} (a : ∀ p ∈ L, p.1 < l) (hm : (D, ob) ∈ L) : l ≠ D := fun e => by subst e; exact Nat.lt_irrefl _ (a _ hm)
theorem updT1 {x D : Addr} {ob o o' : Obj} {r r' : List (Addr × Obj)} (h : D < x) (k : Upd D o o' r r') : Upd D o o' ((x, ob) :: r) ((x, ob) :: r') := .tail (Nat.ne_of_gt h) k
theorem updT2 {x D : Addr} {ob o o' : Obj} {r r' : List (Addr × Obj)} (a : ∀ p ∈ r, p.1 < x) (hm : (D, o) ∈ r) (k : Upd D o o' r r') : Upd D o o' ((x, ob) :: r) ((x, ob) :: r') := .tail (ne_above a hm) k
theorem updT3 {x D : Addr} {ob o o' : Obj} {r r' : List (Addr × Obj)} (h : x ≠ D) (k : Upd D o o' r r') : Upd D o o' ((x, ob) :: r) ((x, ob) :: r') := .tail h k
theorem above_upd {D x : Addr} {o o' : Obj} {r r' : List (Addr × Obj)} (k : Upd D o o' r r') (a : ∀ p ∈ r, p.1 < x) : ∀ p ∈ r', p.1 < x := by
  obtain ⟨pre, post, rfl, rfl, _, _⟩ := k.split
  intro p hp
  rcases List.mem_append.mp hp with hp | hp
  · exact a p (List.mem_append_left _ hp)
  · rcases List.mem_cons.mp hp with rfl | hp
    · exact a (D, o) (List.mem_append_right _ (.head _))
    · exact a p (List.mem_append_right _ (.tail _ hp))
local macro_rules | `(tactic| walk_at "m.upd") => `(tactic| first | ((with_reducible refine' updT3 ?h ?k); (case h => with_reducible assumption); (case k => walk_at "m.upd")) | (with_reducible exact upd_here (by assumption)) | ((with_reducible refine' updT1 ?h ?k); (case h => assumption); (case k => walk_at "m.upd")) | ((with_reducible refine' updT2 ?a ?m ?k); (case a => assumption); (case m => walk_at "m.mem"); (case k => walk_at "m.upd")))
local macro_rules | `(tactic| walk_at "m.setU") => `(tactic| ((with_reducible refine' s_setU ?C ?hi ?hd ?hs ?hp ?ht ?hh ?hl ?e ?U ?hz ?_); (case C => walk_at "m.C"); (case hi => walk_at "m.mem"); (case hd => walk_at "m.mem"); (case hs => k_is); (case hp => k_is); (case ht => k_is); (case hh => k_is); (case hl => k_get); (case e => k_put); (case U => walk_at "m.upd"); (case hz => exact Nat.le_of_ble_eq_true rfl); intro _ _))
theorem c_newnode {T : Int} {cr : Addr} (C : Cx w f m news h) (hT : 3 ≤ T) (hd : f.dp + 3 < 1000)
    (k : ∀ h' tk' x qr news', qr.t = T → qr.cr = cr → Cx w f m news' h' → NodeIn w.params news' x qr lf [] [] → (∀ p ∈ news, p ∈ news') → (∀ b ∈ [x, qr.dn, qr.le, qr.lc], ∀ y, (b, y) ∉ news) → [x, qr.dn, qr.le, qr.lc].Nodup → Q (.ref x) ⟨h', g, d, tk', o⟩) :
    wpAny (MM w) (AR f) (call (.ref 424) [.int T t, .ref cr, .bool lf]) Q E ⟨h, g, d, tk, o⟩ := by
  refine' call_cls (K := Mine.hd.heap_39 w.params) C.F C.X C.N ?k4 ?k5 ?k6 ?_
  (case k4 => k_is)
  (case k5 => k_is)
  (case k6 => k_is)
  intro x dx h₁ F₁ N₁ l1 l2
  have C₁ := C.to F₁ N₁
  have hu := C.u
  show codeAny (MM w) { handled := none, depth := f.dp + 1, frames := some (f.env :: f.outer), guards := f.gd, units := f.un + 1 } _ _ ⟨h₁, g, d, tk, o⟩
  refine' enter_code (binds := [("self", .ref x), ("t", .int T t), ("creator", .ref cr), ("is_leaf", .bool lf)]) C₁ ?k6 ?k7 ?kd ?ku ?k9 ?kB ?_ ?c2 ?c3 ?c4 ?c5
  (case k6 => k_is); (case k7 => k_is); (case kd => omega); (case ku => omega); (case k9 => exact rfl); (case kB => exact rfl); (case c2 => exact rfl); (case c3 => exact rfl); (case c4 => exact rfl); (case c5 => decide)
  intro h₀' L' h' C'
  repeat walk_at "m.s"
  walk_at "m.setU"
  repeat walk_at "m.s"
  walk_at "m.setU"
  repeat walk_at "m.s"
  walk_at "m.setU"
  repeat walk_at "m.s"
  rename_i le _ _ l4
  have n1 := ne_above l4 (D := x) (by walk_at "m.mem")
  have n2 := ne_above l4 (D := dx) (by walk_at "m.mem")
  have q1 : ∀ p ∈ news, p.1 < le := fun p hp => l4 p (by simp [hp])
  walk_at "m.setU"
  repeat walk_at "m.s"
  rename_i lc _ _ l5
  have n3 := ne_above l5 (D := le) (by walk_at "m.mem")
  have n4 := ne_above l5 (D := x) (by walk_at "m.mem")
  have n5 := ne_above l5 (D := dx) (by walk_at "m.mem")
  have q2 : ∀ p ∈ news, p.1 < lc := fun p hp => l5 p (by simp [hp])
  walk_at "m.setU"
  repeat walk_at "m.s"
  show Lv _ _ _ _ _ _ _ _ _ _
  refine Lv.intro (by walk_at "m.C") (fun Cc => ⟨rfl, ?_⟩)
  have q3 : ∀ p ∈ news, p.1 < x := fun p hp => Nat.lt_trans (l1 p hp) l2
  refine k _ _ x ⟨dx, le, lc, cr, _, _, _, _, _, _, 0, 0, T⟩ _ rfl rfl Cc ⟨.tail _ (.tail _ (.head _)), .tail _ (.tail _ (.tail _ (.head _))), .tail _ (.head _), .head _⟩ (fun p hp => .tail _ (.tail _ (.tail _ (.tail _ hp)))) ?_ ?_
  · intro b hb y hy
    simp only [List.mem_cons, List.not_mem_nil, or_false] at hb
    rcases hb with rfl | rfl | rfl | rfl
    · exact Nat.lt_irrefl _ (q3 _ hy)
    · exact Nat.lt_irrefl _ (l1 _ hy)
    · exact Nat.lt_irrefl _ (q1 _ hy)
    · exact Nat.lt_irrefl _ (q2 _ hy)
  · have := Nat.ne_of_gt l2
    grind
end

local macro_rules | `(tactic| walk_at "m.upd") => `(tactic| first | ((with_reducible refine' updT3 ?h ?k); (case h => with_reducible assumption); (case k => walk_at "m.upd")) | (with_reducible exact upd_here (by assumption)) | ((with_reducible refine' updT1 ?h ?k); (case h => assumption); (case k => walk_at "m.upd")) | ((with_reducible refine' updT2 ?a ?m ?k); (case a => assumption); (case m => walk_at "m.mem"); (case k => walk_at "m.upd")))
local macro_rules | `(tactic| walk_at "m.setU") => `(tactic| ((with_reducible refine' s_setU ?C ?hi ?hd ?hs ?hp ?ht ?hh ?hl ?e ?U ?hz ?_); (case C => walk_at "m.C"); (case hi => walk_at "m.mem"); (case hd => walk_at "m.mem"); (case hs => k_is); (case hp => k_is); (case ht => k_is); (case hh => k_is); (case hl => k_get); (case e => k_put); (case U => walk_at "m.upd"); (case hz => exact Nat.le_of_ble_eq_true rfl); intro _ _))

-- N3
section
variable {w : World} {f : Fm} {m : PySem.Str → Option Value} {news : List (Addr × Obj)} {h : Heap} {E : Value → Shared → Prop}
  {g : Array GenState} {d : Drawn} {tk : Nat} {o : OsState} {Q : Value → Shared → Prop}
variable {A : Around} {n c : Addr} {q qc : NK} {lf lfc : Bool} {vs cs vsc csc : List Value} {es : List (Addr × Int)} {i : Int} {t : Tok}
theorem NodeIn.setE {P : Params} {news : List (Addr × Obj)} {n : Addr} {q : NK} {lf : Bool} {vs cs : List Value} {w : World} {f : Fm} {m : PySem.Str → Option Value} {h : Heap} (H : NodeIn P news n q lf vs cs) (C : Cx w f m news h) {l e : Nat} {ws : List Value} (hl : (l, listOf ws.toArray e) ∈ news) :
    NodeIn P (up q.dn (dictOf (nodeD P { q with le := l } lf) 5) news) n { q with le := l, e1 := e } lf ws cs :=
  ⟨mem_up H.i (C.ne H.i H.d (by intro z; have := congrArg Obj.cls z; simp at this)), mem_up_self, mem_up hl (C.ne hl H.d (by intro z; have := congrArg Obj.cls z; simp at this)), mem_up H.c (C.ne H.c H.d (by intro z; have := congrArg Obj.cls z; simp at this))⟩
theorem NodeIn.setC {P : Params} {news : List (Addr × Obj)} {n : Addr} {q : NK} {lf : Bool} {vs cs : List Value} {w : World} {f : Fm} {m : PySem.Str → Option Value} {h : Heap} (H : NodeIn P news n q lf vs cs) (C : Cx w f m news h) {l e : Nat} {ws : List Value} (hl : (l, listOf ws.toArray e) ∈ news) :
    NodeIn P (up q.dn (dictOf (nodeD P { q with lc := l } lf) 5) news) n { q with lc := l, e2 := e } lf vs ws :=
  ⟨mem_up H.i (C.ne H.i H.d (by intro z; have := congrArg Obj.cls z; simp at this)), mem_up_self, mem_up H.e (C.ne H.e H.d (by intro z; have := congrArg Obj.cls z; simp at this)), mem_up hl (C.ne hl H.d (by intro z; have := congrArg Obj.cls z; simp at this))⟩
theorem NodeIn.cells {P : Params} {news : List (Addr × Obj)} {n : Addr} {q : NK} {lf : Bool} {vs cs : List Value} (H : NodeIn P news n q lf vs cs) : ∀ b ∈ [q.dn, q.le, q.lc], ∃ x, (b, x) ∈ news ∧ frz x = false := by
  intro b hb
  simp only [List.mem_cons, List.not_mem_nil, or_false] at hb
  rcases hb with rfl | rfl | rfl
  · exact ⟨_, H.d, rfl⟩
  · exact ⟨_, H.e, rfl⟩
  · exact ⟨_, H.c, rfl⟩
theorem l_getC {value slice : Expr} {v : Value} (C : Cx w f m news h) (H : NodeIn w.params news n q lf vs cs) (h0 : 0 ≤ i) (hz : cs.length ≤ 100) (hx : cs[i.toNat]? = some v) (k : Q v ⟨h, g, d, tk, o⟩)
    (hs : subscripted slice false (.ref q.lc) (.int i t) = operate [.ref q.lc, .int i t] (getItem (.ref q.lc) (.int i t))) :
    wpAny (MM w) A (subscriptTail value slice (.ref q.lc) (.int i t)) Q E ⟨h, g, d, tk, o⟩ := l_get C H.c h0 (by omega) hx k hs
theorem c_maybe_cow {cr : Addr} (C : Cx w f m news h) (H : NodeIn w.params news n q lf vs cs) (hcr : q.cr = cr) (hd : f.dp < 1000) (k : ∀ h' tk', Cx w f m news h' → Q .none ⟨h', g, d, tk', o⟩) : wpAny (MM w) (AR f) (call (.ref 414) [.ref n, .ref cr]) Q E ⟨h, g, d, tk, o⟩ := by
  subst hcr
  refine' enter (binds := [("self", .ref n), ("creator", .ref q.cr)]) C ?k6 ?k7 ?kd ?k9 ?kB ?_ ?c2 ?c3 ?c4 ?c5
  (case k6 => k_is); (case k7 => k_is); (case kd => omega); (case k9 => exact rfl); (case kB => exact rfl); (case c2 => exact rfl); (case c3 => exact rfl); (case c4 => exact rfl); (case c5 => decide)
  intro h₀' L' h' C'
  clear C
  repeat walk_at "m.s"
  walk_at "m.end"
  exact fun Cc => k _ _ Cc
local macro_rules | `(tactic| walk_at "m.getC") => `(tactic| ((with_reducible refine' l_getC ?C ?H ?h0 ?hz ?hx ?_ ?hs); (case C => walk_at "m.C"); (case H => walk_at "m.nd"); (case h0 => omega); (case hz => walk_at "m.len"); (case hx => assumption); (case hs => exact rfl)))
local macro_rules | `(tactic| walk_at "m.call") => `(tactic| first
  | ((with_reducible refine' c_is_max ?C ?H ?hz ?ht ?d ?_); (case C => walk_at "m.C"); (case H => walk_at "m.nd"); (case hz => omega); (case ht => omega); (case d => walk_at "m.dp"); intro _ _ _)
  | ((with_reducible refine' c_is_min ?C ?H ?hz ?ht ?d ?_); (case C => walk_at "m.C"); (case H => walk_at "m.nd"); (case hz => omega); (case ht => omega); (case d => walk_at "m.dp"); intro _ _ _)
  | ((with_reducible refine' c_maybe_cow ?C ?H ?hr ?d ?_); (case C => walk_at "m.C"); (case H => walk_at "m.nd"); (case hr => first | rfl | assumption); (case d => walk_at "m.dp"); intro _ _ _))
theorem c_cow_child (C : Cx w f m news h) (H : NodeIn w.params news n q false vs cs) (h0 : 0 ≤ i) (hx : cs[i.toNat]? = some (.ref c)) (hz : cs.length ≤ 100) (HC : NodeIn w.params news c qc lfc vsc csc) (hcr : qc.cr = q.cr) (hd : f.dp + 1 < 1000)
    (k : ∀ h' tk', Cx w f m news h' → Q (.ref c) ⟨h', g, d, tk', o⟩) : wpAny (MM w) (AR f) (call (.ref 302) [.ref n, .int i t]) Q E ⟨h, g, d, tk, o⟩ := by
  refine' enter (binds := [("self", .ref n), ("index", .int i t)]) C ?k6 ?k7 ?kd ?k9 ?kB ?_ ?c2 ?c3 ?c4 ?c5
  (case k6 => k_is); (case k7 => k_is); (case kd => omega); (case k9 => exact rfl); (case kB => exact rfl); (case c2 => exact rfl); (case c3 => exact rfl); (case c4 => exact rfl); (case c5 => decide)
  intro h₀' L' h' C'
  clear C
  repeat walk_at "m.s"
  walk_at "m.getC"
  repeat walk_at "m.s"
  walk_at "m.end"
  exact fun Cc => k _ _ Cc
end

local macro_rules | `(tactic| walk_at "m.getC") => `(tactic| ((with_reducible refine' l_getC ?C ?H ?h0 ?hz ?hx ?_ ?hs); (case C => walk_at "m.C"); (case H => walk_at "m.nd"); (case h0 => omega); (case hz => walk_at "m.len"); (case hx => assumption); (case hs => exact rfl)))
local macro_rules | `(tactic| walk_at "m.call") => `(tactic| first
  | ((with_reducible refine' c_is_max ?C ?H ?hz ?ht ?d ?_); (case C => walk_at "m.C"); (case H => walk_at "m.nd"); (case hz => omega); (case ht => omega); (case d => walk_at "m.dp"); intro _ _ _)
  | ((with_reducible refine' c_is_min ?C ?H ?hz ?ht ?d ?_); (case C => walk_at "m.C"); (case H => walk_at "m.nd"); (case hz => omega); (case ht => omega); (case d => walk_at "m.dp"); intro _ _ _)
  | ((with_reducible refine' c_maybe_cow ?C ?H ?hr ?d ?_); (case C => walk_at "m.C"); (case H => walk_at "m.nd"); (case hr => first | rfl | assumption); (case d => walk_at "m.dp"); intro _ _ _))

-- N4
section
variable {w : World} {f : Fm} {m : PySem.Str → Option Value} {news : List (Addr × Obj)} {h : Heap} {E : Value → Shared → Prop}
  {g : Array GenState} {d : Drawn} {tk : Nat} {o : OsState} {Q : Value → Shared → Prop}
variable {A : Around} {n l e : Nat} {q : NK} {lf : Bool} {vs cs ws p r : List Value} {i : Int} {t : Tok} {y : Value} {QU : Unit → Shared → Prop} {n2 l2 : Nat}
/-- the same cells, creator and t -/
structure Sm (q q' : NK) : Prop where
  dn : q'.dn = q.dn
  le : q'.le = q.le
  lc : q'.lc = q.lc
  cr : q'.cr = q.cr
  t : q'.t = q.t
theorem Sm.trans {a b c : NK} (x : Sm a b) (y : Sm b c) : Sm a c := ⟨y.dn.trans x.dn, y.le.trans x.le, y.lc.trans x.lc, y.cr.trans x.cr, y.t.trans x.t⟩
theorem Sm.rfl {a : NK} : Sm a a := ⟨Eq.refl _, Eq.refl _, Eq.refl _, Eq.refl _, Eq.refl _⟩
theorem cls_ne {a b : Obj} (h : a.cls ≠ b.cls) : a ≠ b := fun z => h (congrArg Obj.cls z)
theorem NodeIn.upE (C : Cx w f m news h) (H : NodeIn w.params news n q lf vs cs) (hc : q.lc ≠ q.le) {e' : Nat} : NodeIn w.params (up q.le (listOf ws.toArray e') news) n { q with e1 := e' } lf ws cs :=
  ⟨mem_up H.i (C.ne H.i H.e (cls_ne (by simp))), mem_up H.d (C.ne H.d H.e (cls_ne (by simp))), mem_up_self, mem_up H.c hc⟩
theorem NodeIn.upC (C : Cx w f m news h) (H : NodeIn w.params news n q lf vs cs) (hc : q.lc ≠ q.le) {e' : Nat} : NodeIn w.params (up q.lc (listOf ws.toArray e') news) n { q with e2 := e' } lf vs ws :=
  ⟨mem_up H.i (C.ne H.i H.c (cls_ne (by simp))), mem_up H.d (C.ne H.d H.c (cls_ne (by simp))), mem_up H.e (Ne.symm hc), mem_up_self⟩
theorem n_setE (C : Cx w f m news h) (H : NodeIn w.params news n q lf vs cs) (hl : (l, listOf ws.toArray e) ∈ news) (k : ∀ h' news' q', q'.dn = q.dn → q'.le = l → q'.lc = q.lc → q'.cr = q.cr → q'.t = q.t → Cx w f m news' h' → NodeIn w.params news' n q' lf ws cs → Ch news [q.dn] news' [q.dn] → QU () ⟨h', g, d, tk + 2, o⟩) :
    wpAny (MM w) A (setAttr (.ref n) "elts" (.ref l)) QU E ⟨h, g, d, tk, o⟩ := nd_set_elts C H fun h' C' => k h' _ { q with le := l, e1 := e } rfl rfl rfl rfl rfl C' (H.setE C hl) (Ch.up C H.d rfl)
theorem n_setC (C : Cx w f m news h) (H : NodeIn w.params news n q lf vs cs) (hl : (l, listOf ws.toArray e) ∈ news) (k : ∀ h' news' q', q'.dn = q.dn → q'.le = q.le → q'.lc = l → q'.cr = q.cr → q'.t = q.t → Cx w f m news' h' → NodeIn w.params news' n q' lf vs ws → Ch news [q.dn] news' [q.dn] → QU () ⟨h', g, d, tk + 2, o⟩) :
    wpAny (MM w) A (setAttr (.ref n) "children" (.ref l)) QU E ⟨h, g, d, tk, o⟩ := nd_set_children C H fun h' C' => k h' _ { q with lc := l, e2 := e } rfl rfl rfl rfl rfl C' (H.setC C hl) (Ch.up C H.d rfl)
theorem n_appE  (C : Cx w f m news h) (H : NodeIn w.params news n q lf ws cs) (hc : q.lc ≠ q.le) (hz : ws.length ≤ 1000) (k : ∀ h' news' q', Sm q q' → Cx w f m news' h' → NodeIn w.params news' n q' lf (ws ++ [y]) cs → Ch news [q.le] news' [q.le] → Q .none ⟨h', g, d, tk, o⟩) :
    wpAny (MM w) A (call (.builtin "list.append") [.ref q.le, y]) Q E ⟨h, g, d, tk, o⟩ := l_append C H.e hz fun h' C' => k h' _ { q with e1 := q.e1 + 1 } ⟨rfl, rfl, rfl, rfl, rfl⟩ C' (H.upE C hc) (Ch.up C H.e rfl)
theorem n_popE  (C : Cx w f m news h) (H : NodeIn w.params news n q lf (ws ++ [y]) cs) (hc : q.lc ≠ q.le) (hz : ws.length < 1000) (k : ∀ h' news' q', Sm q q' → Cx w f m news' h' → NodeIn w.params news' n q' lf ws cs → Ch news [q.le] news' [q.le] → Q y ⟨h', g, d, tk, o⟩) :
    wpAny (MM w) A (call (.builtin "list.pop") [.ref q.le]) Q E ⟨h, g, d, tk, o⟩ := l_pop C H.e hz fun h' C' => k h' _ { q with e1 := q.e1 + 1 } ⟨rfl, rfl, rfl, rfl, rfl⟩ C' (H.upE C hc) (Ch.up C H.e rfl)
theorem n_pop0E  (C : Cx w f m news h) (H : NodeIn w.params news n q lf (y :: ws) cs) (hc : q.lc ≠ q.le) (hz : ws.length < 1000) (k : ∀ h' news' q', Sm q q' → Cx w f m news' h' → NodeIn w.params news' n q' lf ws cs → Ch news [q.le] news' [q.le] → Q y ⟨h', g, d, tk, o⟩) :
    wpAny (MM w) A (call (.builtin "list.pop") [.ref q.le, .int 0 t]) Q E ⟨h, g, d, tk, o⟩ := l_pop0 C H.e hz fun h' C' => k h' _ { q with e1 := q.e1 + 1 } ⟨rfl, rfl, rfl, rfl, rfl⟩ C' (H.upE C hc) (Ch.up C H.e rfl)
theorem n_popAtE  (C : Cx w f m news h) (H : NodeIn w.params news n q lf (p ++ y :: r) cs) (hc : q.lc ≠ q.le) (hi : i = p.length) (hz : (p ++ y :: r).length ≤ 1000) (k : ∀ h' news' q', Sm q q' → Cx w f m news' h' → NodeIn w.params news' n q' lf (p ++ r) cs → Ch news [q.le] news' [q.le] → Q y ⟨h', g, d, tk, o⟩) :
    wpAny (MM w) A (call (.builtin "list.pop") [.ref q.le, .int i t]) Q E ⟨h, g, d, tk, o⟩ := l_popAt C H.e hi hz fun h' C' => k h' _ { q with e1 := q.e1 + 1 } ⟨rfl, rfl, rfl, rfl, rfl⟩ C' (H.upE C hc) (Ch.up C H.e rfl)
theorem n_insE  (C : Cx w f m news h) (H : NodeIn w.params news n q lf (p ++ r) cs) (hc : q.lc ≠ q.le) (hi : i = p.length) (hz : (p ++ r).length ≤ 1000) (k : ∀ h' news' q', Sm q q' → Cx w f m news' h' → NodeIn w.params news' n q' lf (p ++ y :: r) cs → Ch news [q.le] news' [q.le] → Q .none ⟨h', g, d, tk, o⟩) :
    wpAny (MM w) A (call (.builtin "list.insert") [.ref q.le, .int i t, y]) Q E ⟨h, g, d, tk, o⟩ := l_insert C H.e hi hz fun h' C' => k h' _ { q with e1 := q.e1 + 1 } ⟨rfl, rfl, rfl, rfl, rfl⟩ C' (H.upE C hc) (Ch.up C H.e rfl)
theorem n_extE  (C : Cx w f m news h) (H : NodeIn w.params news n q lf p cs) (hc : q.lc ≠ q.le) (h2 : (l2, listOf ws.toArray n2) ∈ news) (hne : l2 ≠ q.le) (h0 : ws.length ≠ 0) (hz : p.length + ws.length ≤ 1000) (k : ∀ h' news' q', Sm q q' → Cx w f m news' h' → NodeIn w.params news' n q' lf (p ++ ws) cs → Ch news [q.le] news' [q.le] → Q .none ⟨h', g, d, tk, o⟩) :
    wpAny (MM w) A (call (.builtin "list.extend") [.ref q.le, .ref l2]) Q E ⟨h, g, d, tk, o⟩ := l_extend C H.e h2 hne h0 hz fun h' C' => k h' _ { q with e1 := q.e1 + 1 } ⟨rfl, rfl, rfl, rfl, rfl⟩ C' (H.upE C hc) (Ch.up C H.e rfl)
theorem n_appC  (C : Cx w f m news h) (H : NodeIn w.params news n q lf vs ws) (hc : q.lc ≠ q.le) (hz : ws.length ≤ 1000) (k : ∀ h' news' q', Sm q q' → Cx w f m news' h' → NodeIn w.params news' n q' lf vs (ws ++ [y]) → Ch news [q.lc] news' [q.lc] → Q .none ⟨h', g, d, tk, o⟩) :
    wpAny (MM w) A (call (.builtin "list.append") [.ref q.lc, y]) Q E ⟨h, g, d, tk, o⟩ := l_append C H.c hz fun h' C' => k h' _ { q with e2 := q.e2 + 1 } ⟨rfl, rfl, rfl, rfl, rfl⟩ C' (H.upC C hc) (Ch.up C H.c rfl)
theorem n_popC  (C : Cx w f m news h) (H : NodeIn w.params news n q lf vs (ws ++ [y])) (hc : q.lc ≠ q.le) (hz : ws.length < 1000) (k : ∀ h' news' q', Sm q q' → Cx w f m news' h' → NodeIn w.params news' n q' lf vs ws → Ch news [q.lc] news' [q.lc] → Q y ⟨h', g, d, tk, o⟩) :
    wpAny (MM w) A (call (.builtin "list.pop") [.ref q.lc]) Q E ⟨h, g, d, tk, o⟩ := l_pop C H.c hz fun h' C' => k h' _ { q with e2 := q.e2 + 1 } ⟨rfl, rfl, rfl, rfl, rfl⟩ C' (H.upC C hc) (Ch.up C H.c rfl)
theorem n_pop0C  (C : Cx w f m news h) (H : NodeIn w.params news n q lf vs (y :: ws)) (hc : q.lc ≠ q.le) (hz : ws.length < 1000) (k : ∀ h' news' q', Sm q q' → Cx w f m news' h' → NodeIn w.params news' n q' lf vs ws → Ch news [q.lc] news' [q.lc] → Q y ⟨h', g, d, tk, o⟩) :
    wpAny (MM w) A (call (.builtin "list.pop") [.ref q.lc, .int 0 t]) Q E ⟨h, g, d, tk, o⟩ := l_pop0 C H.c hz fun h' C' => k h' _ { q with e2 := q.e2 + 1 } ⟨rfl, rfl, rfl, rfl, rfl⟩ C' (H.upC C hc) (Ch.up C H.c rfl)
theorem n_popAtC  (C : Cx w f m news h) (H : NodeIn w.params news n q lf vs (p ++ y :: r)) (hc : q.lc ≠ q.le) (hi : i = p.length) (hz : (p ++ y :: r).length ≤ 1000) (k : ∀ h' news' q', Sm q q' → Cx w f m news' h' → NodeIn w.params news' n q' lf vs (p ++ r) → Ch news [q.lc] news' [q.lc] → Q y ⟨h', g, d, tk, o⟩) :
    wpAny (MM w) A (call (.builtin "list.pop") [.ref q.lc, .int i t]) Q E ⟨h, g, d, tk, o⟩ := l_popAt C H.c hi hz fun h' C' => k h' _ { q with e2 := q.e2 + 1 } ⟨rfl, rfl, rfl, rfl, rfl⟩ C' (H.upC C hc) (Ch.up C H.c rfl)
theorem n_insC  (C : Cx w f m news h) (H : NodeIn w.params news n q lf vs (p ++ r)) (hc : q.lc ≠ q.le) (hi : i = p.length) (hz : (p ++ r).length ≤ 1000) (k : ∀ h' news' q', Sm q q' → Cx w f m news' h' → NodeIn w.params news' n q' lf vs (p ++ y :: r) → Ch news [q.lc] news' [q.lc] → Q .none ⟨h', g, d, tk, o⟩) :
    wpAny (MM w) A (call (.builtin "list.insert") [.ref q.lc, .int i t, y]) Q E ⟨h, g, d, tk, o⟩ := l_insert C H.c hi hz fun h' C' => k h' _ { q with e2 := q.e2 + 1 } ⟨rfl, rfl, rfl, rfl, rfl⟩ C' (H.upC C hc) (Ch.up C H.c rfl)
theorem n_extC  (C : Cx w f m news h) (H : NodeIn w.params news n q lf vs p) (hc : q.lc ≠ q.le) (h2 : (l2, listOf ws.toArray n2) ∈ news) (hne : l2 ≠ q.lc) (h0 : ws.length ≠ 0) (hz : p.length + ws.length ≤ 1000) (k : ∀ h' news' q', Sm q q' → Cx w f m news' h' → NodeIn w.params news' n q' lf vs (p ++ ws) → Ch news [q.lc] news' [q.lc] → Q .none ⟨h', g, d, tk, o⟩) :
    wpAny (MM w) A (call (.builtin "list.extend") [.ref q.lc, .ref l2]) Q E ⟨h, g, d, tk, o⟩ := l_extend C H.c h2 hne h0 hz fun h' C' => k h' _ { q with e2 := q.e2 + 1 } ⟨rfl, rfl, rfl, rfl, rfl⟩ C' (H.upC C hc) (Ch.up C H.c rfl)
theorem n_putE  (C : Cx w f m news h) (H : NodeIn w.params news n q lf ws cs) (hc : q.lc ≠ q.le) (h0 : 0 ≤ i) (h1 : i < ws.length) (hz : ws.length ≤ 1000) (k : ∀ h' news', Cx w f m news' h' → NodeIn w.params news' n q lf (ws.set i.toNat y) cs → Ch news [q.le] news' [q.le] → QU () ⟨h', g, d, tk, o⟩) :
    wpAny (MM w) A (setItem (.ref q.le) (.int i t) y) QU E ⟨h, g, d, tk, o⟩ := l_set C H.e h0 h1 hz fun h' C' => k h' _ C' (H.upE C hc) (Ch.up C H.e rfl)
end

local macro_rules | `(tactic| walk_at "m.setE") => `(tactic| first | ((with_reducible refine' n_setE ?C ?H ?l ?_); (case C => walk_at "m.C"); (case H => walk_at "m.nd"); (case l => walk_at "m.mem")))

local macro_rules | `(tactic| walk_at "m.setC") => `(tactic| first | ((with_reducible refine' n_setC ?C ?H ?l ?_); (case C => walk_at "m.C"); (case H => walk_at "m.nd"); (case l => walk_at "m.mem")))

-- N5
section
variable {w : World} {f : Fm} {m : PySem.Str → Option Value} {news : List (Addr × Obj)} {h : Heap} {E : Value → Shared → Prop}
  {g : Array GenState} {d : Drawn} {tk : Nat} {o : OsState} {Q : Value → Shared → Prop}
variable {A : Around} {n c : Addr} {q qc : NK} {lf lfc : Bool} {vs cs vsc csc : List Value} {es : List (Addr × Int)} {i : Int} {t : Tok}
theorem Ch.step {n1 n2 n3 : List (Addr × Obj)} {f1 f2 g : List Addr} (a : Ch n1 f1 n2 f2) (b : Ch n2 g n3 g) (hg : ∀ x ∈ g, x ∈ f2) : Ch n1 f1 n3 f2 := a.trans (b.weak hg fun _ h => .inr h)
theorem Ch.push {n1 n2 : List (Addr × Obj)} {f1 f2 : List Addr} (a : Ch n1 f1 n2 f2) {D : Addr} (hD : ∀ p ∈ n2, p.1 < D) (ob : Obj) : Ch n1 f1 ((D, ob) :: n2) (D :: f2) := by
  refine ⟨fun b x h k => .tail _ (a.frm b x h k), fun b hb => ?_⟩
  rcases List.mem_cons.mp hb with rfl | hb
  · by_cases h : b ∈ f1
    · exact .inl h
    · exact .inr fun x hx => Nat.lt_irrefl _ (hD _ (a.keep hx h))
  · exact a.new b hb
theorem Ch.to {n1 n2 : List (Addr × Obj)} {f1 f2 g : List Addr} (a : Ch n1 f1 n2 f2) (hg : ∀ b ∈ g, b ∈ f2 ∨ b ∈ f1) : Ch n1 f1 n2 g := a.weak (fun _ h => h) hg
theorem Ch.fresh {n1 n2 : List (Addr × Obj)} {f1 f2 g : List Addr} (a : Ch n1 f1 n2 f2) (k : ∀ p ∈ n2, p ∈ n3) (hg : ∀ b ∈ g, ∀ x, (b, x) ∉ n1) : Ch n1 f1 n3 (g ++ f2) :=
  ⟨fun b x h q => k _ (a.frm b x h q), fun b hb => (List.mem_append.mp hb).elim (fun q => .inr (hg b q)) (a.new b)⟩
theorem NodeIn.take_nil {P : Params} {news : List (Addr × Obj)} {n : Addr} {q : NK} {lf : Bool} {vs : List Value} (H : NodeIn P news n q lf vs []) (T : Nat) : NodeIn P news n q lf vs (List.take T []) := by rw [List.take_nil]; exact H
theorem NodeIn.drop_nil {P : Params} {news : List (Addr × Obj)} {n : Addr} {q : NK} {lf : Bool} {vs : List Value} (H : NodeIn P news n q lf vs []) (T : Nat) : NodeIn P news n q lf vs (List.drop T []) := by rw [List.drop_nil]; exact H
/-- a node's cells -/
abbrev NK.fp (q : NK) : List Addr := [q.dn, q.le, q.lc]
structure Apart (D : Nat) (q : NK) : Prop where
  dn : D ≠ q.dn
  le : D ≠ q.le
  lc : D ≠ q.lc
theorem NodeIn.ab {P : Params} {news : List (Addr × Obj)} {n : Addr} {q : NK} {lf : Bool} {vs cs : List Value} (H : NodeIn P news n q lf vs cs) {D : Nat} (l : ∀ p ∈ news, p.1 < D) : Apart D q :=
  ⟨Nat.ne_of_gt (l _ H.d), Nat.ne_of_gt (l _ H.e), Nat.ne_of_gt (l _ H.c)⟩
theorem NodeIn.frs {P : Params} {news : List (Addr × Obj)} {n : Addr} {q : NK} {lf : Bool} {vs cs : List Value} (H : NodeIn P news n q lf vs cs) {G : List Addr} (fr : ∀ b ∈ G, ∀ y, (b, y) ∉ news) : ∀ b ∈ G, Apart b q :=
  fun b hb => ⟨fun e => fr b hb _ (e ▸ H.d), fun e => fr b hb _ (e ▸ H.e), fun e => fr b hb _ (e ▸ H.c)⟩
theorem sp_nd1 {q qr q3 q4 : NK} {x D2 D4 : Nat} (h1 : q.fp.Nodup) (h2 : [x, qr.dn, qr.le, qr.lc].Nodup) (h3 : ∀ y ∈ [x, qr.dn, qr.le, qr.lc], Apart y q) (A2 : Apart D2 q) (A2r : Apart D2 qr) (A4 : Apart D4 q) (A4r : Apart D4 q3)
    (a1 : q3.dn = qr.dn) (a2 : q3.le = D2) (a3 : q3.lc = qr.lc) (b1 : q4.dn = q.dn) (b2 : q4.le = D4) (b3 : q4.lc = q.lc) : (q4.fp ++ q3.fp).Nodup := by
  obtain ⟨x1, x2, x3⟩ := A2; obtain ⟨x4, x5, x6⟩ := A2r; obtain ⟨x7, x8, x9⟩ := A4; obtain ⟨y1, y2, y3⟩ := A4r
  obtain ⟨z1, z2, z3⟩ := h3 qr.dn (by simp); obtain ⟨z4, z5, z6⟩ := h3 qr.lc (by simp)
  clear h3
  simp only [NK.fp, List.nodup_cons, List.mem_cons, List.not_mem_nil, or_false, not_or, List.cons_append, List.nil_append, List.nodup_nil, and_true, not_false_eq_true] at h1 h2 ⊢
  simp_all [Ne.symm, eq_comm]
theorem sp_nd2 {q qr q3 q4 q5 q6 : NK} {x D2 D4 D6 D8 : Nat} (h1 : q.fp.Nodup) (h2 : [x, qr.dn, qr.le, qr.lc].Nodup) (h3 : ∀ y ∈ [x, qr.dn, qr.le, qr.lc], Apart y q) (A2 : Apart D2 q) (A2r : Apart D2 qr) (A4 : Apart D4 q) (A4r : Apart D4 q3) (A6 : Apart D6 q4) (A6r : Apart D6 q3) (A8 : Apart D8 q4) (A8r : Apart D8 q5)
    (a1 : q3.dn = qr.dn) (a2 : q3.le = D2) (a3 : q3.lc = qr.lc) (b1 : q4.dn = q.dn) (b2 : q4.le = D4) (b3 : q4.lc = q.lc) (d1 : q5.dn = q3.dn) (d2 : q5.le = q3.le) (d3 : q5.lc = D6) (f1 : q6.dn = q4.dn) (f2 : q6.le = q4.le) (f3 : q6.lc = D8) : (q6.fp ++ q5.fp).Nodup := by
  obtain ⟨x1, x2, x3⟩ := A2; obtain ⟨x4, x5, x6⟩ := A2r; obtain ⟨x7, x8, x9⟩ := A4; obtain ⟨y1, y2, y3⟩ := A4r
  obtain ⟨z1, z2, z3⟩ := h3 qr.dn (by simp); obtain ⟨z4, z5, z6⟩ := h3 qr.lc (by simp)
  obtain ⟨x11, x12, x13⟩ := A6; obtain ⟨x14, x15, x16⟩ := A6r; obtain ⟨x17, x18, x19⟩ := A8; obtain ⟨y11, y12, y13⟩ := A8r
  clear h3
  simp only [NK.fp, List.nodup_cons, List.mem_cons, List.not_mem_nil, or_false, not_or, List.cons_append, List.nil_append, List.nodup_nil, and_true, not_false_eq_true] at h1 h2 ⊢
  simp_all [Ne.symm, eq_comm]
theorem c_split {T : Nat} {v : Value} (C : Cx w f m news h) (H : NodeIn w.params news n q lf vs cs) (hT : q.t = T) (h3 : 3 ≤ T) (h5 : T ≤ 5) (hz : vs.length = 2 * T - 1) (hl : lf = true → cs = []) (hl' : lf = false → cs.length = 2 * T) (hn : q.fp.Nodup) (hv : vs[T - 1]? = some v) (hd : f.dp + 4 < 1000)
    (k : ∀ h' tk' news' x q' qr D, Cx w f m news' h' → NodeIn w.params news' n q' lf (vs.take (T - 1)) (cs.take T) → NodeIn w.params news' x qr lf (vs.drop T) (cs.drop T) → (D, tupOf [.ref n, v, .ref x]) ∈ news' → q'.cr = q.cr → q'.t = T → qr.cr = q.cr → qr.t = T →
      Ch news q.fp news' (q'.fp ++ qr.fp) → (q'.fp ++ qr.fp).Nodup → (∀ y, (x, y) ∉ news) → Q (.ref D) ⟨h', g, d, tk', o⟩) :
    wpAny (MM w) (AR f) (call (.ref 337) [.ref n]) Q E ⟨h, g, d, tk, o⟩ := by
  refine' enter (binds := [("self", .ref n)]) C ?k6 ?k7 ?kd ?k9 ?kB ?_ ?c2 ?c3 ?c4 ?c5
  (case k6 => k_is); (case k7 => k_is); (case kd => omega); (case k9 => exact rfl); (case kB => exact rfl); (case c2 => exact rfl); (case c3 => exact rfl); (case c4 => exact rfl); (case c5 => decide)
  intro h₀' L' h' C'
  clear C
  repeat walk_at "m.s"
  refine' c_newnode ?C ?hT ?d ?_
  case C => walk_at "m.C"
  case hT => omega
  case d => walk_at "m.dp"
  intro h2 tk2 x qr news2 r1 r2 C2 HR sub fr nd
  have H2 := H.mono sub
  repeat walk_at "m.s"
  walk_at "m.slF"
  intro D1 h3 C3 l3
  repeat walk_at "m.s"
  walk_at "m.list"
  intro D2 c2 h4 C4 l4
  repeat walk_at "m.s"
  have e1 : (q.t - 1 + 1).toNat = T := by omega
  rw [e1] at C4
  walk_at "m.setE"
  intro h5 news3 qr3 a1 a2 a3 a4 a5 C5 HR3 ch3
  have e2 : (q.t - 1).toNat = T - 1 := by omega
  have A0 := H.frs fr
  have c0 : Ch news q.fp news2 ([x, qr.dn, qr.le, qr.lc] ++ q.fp) := Ch.refl.fresh sub fr
  have c1 := (c0.push l3 (listOf (vs.drop (q.t - 1 + 1).toNat).toArray 0)).push l4 (listOf (vs.drop (q.t - 1 + 1).toNat).toArray c2)
  rw [e1] at c1
  have c3 := c1.step ch3 (by simp)
  have H3 := H2.cons (x := (D1, listOf (vs.drop T).toArray 0)) |>.cons (x := (D2, listOf (vs.drop T).toArray c2)) |>.ch ch3 (by rw [List.mem_singleton]; exact (A0 qr.dn (by simp)).dn.symm) (by rw [List.mem_singleton]; exact (A0 qr.dn (by simp)).le.symm) (by rw [List.mem_singleton]; exact (A0 qr.dn (by simp)).lc.symm)
  have hv' : vs[(q.t - 1).toNat]? = some v := by rw [e2]; exact hv
  have A2 := H2.cons.ab l4
  have A2r := HR.cons.ab l4
  repeat walk_at "m.s"
  walk_at "m.getV"
  repeat walk_at "m.s"
  walk_at "m.slU"
  intro D3 h6 C6 l6
  rw [e2] at C6
  have c4 := c3.push l6 (listOf (vs.take (T - 1)).toArray 0)
  repeat walk_at "m.s"
  walk_at "m.list"
  intro D4 c5 h7 C7 l7
  have A4 := H3.cons.ab l7
  have A4r := HR3.cons.ab l7
  have c6 := c4.push l7 (listOf (vs.take (T - 1)).toArray c5)
  repeat walk_at "m.s"
  walk_at "m.setE"
  intro h8 news4 q4 b1 b2 b3 b4 b5 C8 H8 ch8
  have c7 := c6.step ch8 (by simp)
  have HR8 := HR3.cons (x := (D3, listOf (vs.take (T - 1)).toArray 0)) |>.cons (x := (D4, listOf (vs.take (T - 1)).toArray c5)) |>.ch ch8 (by rw [List.mem_singleton]; exact a1 ▸ (A0 qr.dn (by simp)).dn) (by rw [List.mem_singleton]; exact a2 ▸ A2.dn) (by rw [List.mem_singleton]; exact a3 ▸ (A0 qr.lc (by simp)).dn)
  repeat walk_at "m.s"
  refine ifB_split (fun hlf => ?_) (fun hlf => ?_)
  all_goals (try subst hlf)
  · have hcs := hl rfl
    subst hcs
    repeat walk_at "m.s"
    rename_i D _ CD lD
    walk_at "m.end"
    refine fun Cc => k _ _ _ x _ _ D Cc (H8.cons.take_nil T) (HR8.cons.drop_nil T) List.mem_cons_self (by grind) (by grind) (by grind) (by grind) ((c7.push lD (tupOf [.ref n, v, .ref x])).to ?_) ?_ fun y => fr x (by simp) y
    · grind
    · exact sp_nd1 hn nd A0 A2 A2r A4 A4r a1 a2 a3 b1 b2 b3
  · have hcl := hl' rfl
    repeat walk_at "m.s"
    walk_at "m.slF"
    intro D5 h9 C9 l9
    rw [show (q4.t - 1 + 1).toNat = T by omega] at C9
    have c8 := c7.push l9 (listOf (cs.drop T).toArray 0)
    repeat walk_at "m.s"
    walk_at "m.list"
    intro D6 c9 h10 C10 l10
    have A6 := H8.cons.ab l10
    have A6r := HR8.cons.ab l10
    have c10 := c8.push l10 (listOf (cs.drop T).toArray c9)
    repeat walk_at "m.s"
    walk_at "m.setC"
    intro h11 news5 qr5 d1 d2 d3 d4 d5 C11 HR11 ch11
    have c11 := c10.step ch11 (by intro b hb; rw [List.mem_singleton.mp hb, a1]; simp)
    have H11 := H8.cons (x := (D5, listOf (cs.drop T).toArray 0)) |>.cons (x := (D6, listOf (cs.drop T).toArray c9)) |>.ch ch11 (by rw [List.mem_singleton]; exact a1 ▸ b1 ▸ (A0 qr.dn (by simp)).dn.symm) (by rw [List.mem_singleton]; exact b2 ▸ A4r.dn) (by rw [List.mem_singleton]; exact a1 ▸ b3 ▸ (A0 qr.dn (by simp)).lc.symm)
    repeat walk_at "m.s"
    walk_at "m.slU"
    intro D7 h12 C12 l12
    rw [show (q4.t - 1 + 1).toNat = T by omega] at C12
    have c12 := c11.push l12 (listOf (cs.take T).toArray 0)
    repeat walk_at "m.s"
    walk_at "m.list"
    intro D8 c13 h13 C13 l13
    have A8 := H11.cons.ab l13
    have A8r := HR11.cons.ab l13
    have c13' := c12.push l13 (listOf (cs.take T).toArray c13)
    repeat walk_at "m.s"
    walk_at "m.setC"
    intro h14 news6 q6 f1 f2 f3 f4 f5 C14 H14 ch14
    have c14 := c13'.step ch14 (by intro b hb; rw [List.mem_singleton.mp hb, b1]; simp)
    have HR14 := HR11.cons (x := (D7, listOf (cs.take T).toArray 0)) |>.cons (x := (D8, listOf (cs.take T).toArray c13)) |>.ch ch14 (by rw [List.mem_singleton]; exact d1 ▸ a1 ▸ b1 ▸ (A0 qr.dn (by simp)).dn) (by rw [List.mem_singleton]; exact d2 ▸ a2 ▸ b1 ▸ A2.dn) (by rw [List.mem_singleton]; exact d3 ▸ A6.dn)
    repeat walk_at "m.s"
    rename_i D _ CD lD
    walk_at "m.end"
    refine fun Cc => k _ _ _ x _ _ D Cc H14.cons HR14.cons List.mem_cons_self (by grind) (by grind) (by grind) (by grind) ((c14.push lD (tupOf [.ref n, v, .ref x])).to ?_) ?_ fun y => fr x (by simp) y
    · intro b hb
      rw [show q6.fp ++ qr5.fp = [q.dn, D4, D8, qr.dn, D2, D6] from by simp only [NK.fp, f1, f2, f3, b1, b2, d1, d2, d3, a1, a2]; rfl] at hb
      simp only [List.mem_cons, List.not_mem_nil, or_false] at hb
      rcases hb with rfl | rfl | rfl | rfl | rfl | rfl <;> simp
    · exact sp_nd2 hn nd A0 A2 A2r A4 A4r A6 A6r A8 A8r a1 a2 a3 b1 b2 b3 d1 d2 d3 f1 f2 f3
end

-- N6
theorem vals_append (a b : List (Addr × Int)) : vals (a ++ b) = vals a ++ vals b := List.map_append
theorem vals_cons (a : Addr × Int) (b : List (Addr × Int)) : vals (a :: b) = .ref a.1 :: vals b := rfl
theorem Found.no {es : List (Addr × Int)} {k0 : Int} {i : Nat} (H : Found es k0 i false) : ∃ ea eb, es = ea ++ eb ∧ i = ea.length ∧ (∀ e ∈ ea, e.2 < k0) ∧ (∀ e ∈ eb, k0 < e.2) := by
  obtain ⟨h1, h2, _, h4⟩ := H
  refine ⟨es.take i, es.drop i, (List.take_append_drop i es).symm, by rw [List.length_take]; omega, fun e he => ?_, fun e he => ?_⟩
  · obtain ⟨j, hj⟩ := List.getElem?_of_mem he
    rw [List.getElem?_take] at hj
    split at hj
    · exact h2 j e (by assumption) hj
    · cases hj
  · obtain ⟨j, hj⟩ := List.getElem?_of_mem he
    rw [List.getElem?_drop] at hj
    exact h4 rfl _ e (by omega) hj
theorem Found.yes {es : List (Addr × Int)} {k0 : Int} {i : Nat} (H : Found es k0 i true) : ∃ ea e eb, es = ea ++ e :: eb ∧ i = ea.length ∧ e.2 = k0 := by
  obtain ⟨h1, h2, h3, h4⟩ := H
  obtain ⟨e, he, hk⟩ := h3 rfl
  obtain ⟨hi, rfl⟩ := List.getElem?_eq_some_iff.mp he
  refine ⟨es.take i, es[i], es.drop (i + 1), by simp, by rw [List.length_take]; omega, hk⟩
theorem Found.at {ea eb : List (Addr × Int)} {k0 : Int} {i : Nat} {eq : Bool} (H : Found (ea ++ eb) k0 i eq) (h1 : ∀ e ∈ ea, e.2 < k0) (h2 : ∀ e ∈ eb, k0 < e.2) : i = ea.length ∧ eq = false := by
  obtain ⟨a1, a2, a3, a4⟩ := H
  have hq : eq = false := by
    cases eq with
    | false => rfl
    | true =>
      obtain ⟨e, he, hk⟩ := a3 rfl
      rcases List.mem_append.mp (List.mem_of_getElem? he) with h | h
      · have := h1 e h; omega
      · have := h2 e h; omega
  refine ⟨?_, hq⟩
  rcases Nat.lt_trichotomy i ea.length with h | h | h
  · have := a4 hq i ea[i] (Nat.le_refl _) (by rw [List.getElem?_append_left h]; exact List.getElem?_eq_getElem h)
    have := h1 _ (List.getElem_mem h)
    omega
  · exact h
  · rw [List.length_append] at a1
    have h0 : 0 < eb.length := by omega
    have := a2 ea.length eb[0] h (by rw [List.getElem?_append_right (Nat.le_refl _), Nat.sub_self]; exact List.getElem?_eq_getElem h0)
    have := h2 _ (List.getElem_mem h0)
    omega
section
variable {w : World} {f : Fm} {m : PySem.Str → Option Value} {news : List (Addr × Obj)} {h : Heap} {E : Value → Shared → Prop}
  {g : Array GenState} {d : Drawn} {tk : Nat} {o : OsState} {Q : Value → Shared → Prop}
variable {A : Around} {n lft rgt : Addr} {q ql : NK} {lf lfl : Bool} {vs cs vsl csl : List Value} {ea eb : List (Addr × Int)} {md : Addr × Int} {i : Int} {t : Tok} {ca cb : List Value}
theorem s_unpack2 {env : Env} {a b : PySem.Str} {p1 p2 p3 : Pos} {kk : Nat} {T : Addr} {va vb : Value} {QU : Unit → Shared → Prop} (C : Cx w f m news h) (hm : (T, tupOf [va, vb]) ∈ news) (hA : A.handled = none)
    (c : ∀ h', Cx w f m news h' → wpAny (MM w) A (storeName env a va) (fun _ s₁ => wpAny (MM w) A (storeName env b vb) (fun _ s₂ => QU () s₂) E s₁) E ⟨h', g, d, tk, o⟩) : wpAny (MM w) A (assign (.Tuple [.Name a p1, .Name b p2] kk p3) env (.ref T)) QU E ⟨h, g, d, tk, o⟩ :=
  s_unpack C hm hA rfl rfl fun h' C' => assignInOrder_cons (assign_Name (wpAny_mono (c h' C') (fun _ s₁ z => assignInOrder_cons (assign_Name (wpAny_mono z (fun _ s₂ y => assignInOrder_nil y) fun _ _ x => x))) fun _ _ x => x))
local macro_rules | `(tactic| walk_at "m.s") => `(tactic| ((with_reducible refine' s_unpack2 ?C ?m ?hA ?_); (case C => walk_at "m.C"); (case m => walk_at "m.mem"); (case hA => exact rfl); intro _ _))
local macro_rules | `(tactic| walk_at "m.call") => `(tactic| ((with_reducible refine' c_search ?C ?H ?HE ?hs ?hk ?hz ?d ?_); (case C => walk_at "m.C"); (case H => walk_at "m.nd"); (case HE => assumption); (case hs => assumption); (case hk => assumption); (case hz => omega); (case d => walk_at "m.dp"); intro _ _ _ _ _ _ _ _ _))
/-- what a call hands back, as a value's and a fault's -/
def RB (Q E : Value → Shared → Prop) : Result → Shared → Prop := fun r s' => match r with | .ok (.ret v) => Q v s' | .ok _ => False | .error e => E e s'
theorem c_adopt (C : Cx w f m news h) (H : NodeIn w.params news n q false (vals (ea ++ eb)) (ca ++ .ref lft :: cb)) (hE : ∀ e ∈ ea ++ eb, IsE w.params news e) (hM : IsE w.params news md) (h1 : ∀ e ∈ ea, e.2 < md.2) (h2 : ∀ e ∈ eb, md.2 < e.2) (hA : Asc (ea ++ eb)) (hc : ca.length = ea.length) (hz : (ea ++ eb).length < 2 * q.t - 1) (ht : q.t ≤ 5) (hcz : (ca ++ .ref lft :: cb).length ≤ 100)
    (hll : q.lc ≠ q.le) (hL : ∃ dl, (lft, instObj 424 dl) ∈ news) (hd : f.dp + 2 < 1000)
    (k : ∀ h' tk' news' q', Cx w f m news' h' → Sm q q' → NodeIn w.params news' n q' false (vals (ea ++ md :: eb)) (ca ++ .ref lft :: .ref rgt :: cb) → Ch news q.fp news' q.fp → Q .none ⟨h', g, d, tk', o⟩) :
    codeAny (MM w) (AR f) (.call (.ref 358) ⟨[.ref n, .ref lft, .ref md.1, .ref rgt], []⟩) (RB Q E) ⟨h, g, d, tk, o⟩ := by
  obtain ⟨b, tb, hB, hb⟩ := hM
  obtain ⟨dl, hL⟩ := hL
  have hz1 := hz
  have hzv : (vals (ea ++ eb)).length = (ea ++ eb).length := vals_length _
  refine' enter_code (binds := [("self", .ref n), ("left", .ref lft), ("middle", .ref md.1), ("right", .ref rgt)]) C ?k6 ?k7 ?kd ?ku ?k9 ?kB ?_ ?c2 ?c3 ?c4 ?c5
  (case k6 => k_is); (case k7 => k_is); (case kd => omega); (case ku => exact C.u); (case k9 => exact rfl); (case kB => exact rfl); (case c2 => exact rfl); (case c3 => exact rfl); (case c4 => exact rfl); (case c5 => decide)
  intro h₀' L' h' C'
  clear C
  repeat walk_at "m.s"
  obtain ⟨hi, he⟩ := Found.at ‹Found _ _ _ _› h1 h2
  subst hi; subst he
  repeat walk_at "m.s"
  refine n_insE (p := vals ea) (r := vals eb) (by walk_at "m.C") (by rw [← vals_append]; walk_at "m.nd") hll (by rw [vals_length]) (by rw [← vals_append, vals_length]; omega) ?_
  intro h1 news1 q1 s1 C1 H1 ch1
  have hcl : 0 < (ca ++ Value.ref lft :: cb).length := by rw [List.length_append, List.length_cons]; omega
  have hg : (ca ++ Value.ref lft :: cb)[(ea.length : Int).toNat]? = some (.ref lft) := by rw [Int.toNat_natCast, ← hc]; simp
  have hL1 : (lft, instObj 424 dl) ∈ news1 := ch1.keepF (.tail _ hL) rfl
  repeat walk_at "m.s"
  walk_at "m.getC"
  repeat walk_at "m.s"
  refine s_eq_node (by walk_at "m.C") hL1 (by walk_at "m.dp") ?_
  repeat walk_at "m.s"
  refine n_insC (p := ca ++ [.ref lft]) (r := cb) (by walk_at "m.C") (by rw [List.append_assoc]; exact H1) (by rw [s1.le, s1.lc]; exact hll) (by simp [hc]) (by rw [List.append_assoc]; exact Nat.le_trans hcz (by omega)) ?_
  intro h2 news2 q2 s2 C2 H2 ch2
  repeat walk_at "m.s"
  walk_at "m.end"
  rw [List.append_assoc] at H2
  refine fun Cc => k _ _ _ q2 Cc (s1.trans s2) (by rw [vals_append, vals_cons]; exact H2) (((Ch.refl (fp := q.fp)).sub fun _ hp => .tail _ hp).step ch1 (by simp) |>.step ch2 (by rw [s1.lc]; simp))
theorem c_adopt0 (C : Cx w f m news h) (H : NodeIn w.params news n q false (vals []) []) (hM : IsE w.params news md) (ht : q.t ≤ 5) (ht3 : 3 ≤ q.t)
    (hll : q.lc ≠ q.le) (hd : f.dp + 2 < 1000)
    (k : ∀ h' tk' news' q', Cx w f m news' h' → q'.dn = q.dn → q'.le = q.le → q'.cr = q.cr → q'.t = q.t → (∀ y, (q'.lc, y) ∉ news) → NodeIn w.params news' n q' false (vals [md]) [.ref lft, .ref rgt] → Ch news q.fp news' q'.fp → q'.lc ≠ q'.le → q'.lc ≠ q'.dn → Q .none ⟨h', g, d, tk', o⟩) :
    codeAny (MM w) (AR f) (.call (.ref 358) ⟨[.ref n, .ref lft, .ref md.1, .ref rgt], []⟩) (RB Q E) ⟨h, g, d, tk, o⟩ := by
  obtain ⟨b, tb, hB, hb⟩ := hM
  have hE : ∀ e ∈ ([] : List (Addr × Int)), IsE w.params news e := fun e h => (nomatch h)
  have hA : Asc [] := List.Pairwise.nil
  have hl0 : List.length ([] : List (Addr × Int)) = 0 := rfl
  have hl1 : List.length ([] : List Value) = 0 := rfl
  have hzv : (vals []).length = 0 := rfl
  refine' enter_code (binds := [("self", .ref n), ("left", .ref lft), ("middle", .ref md.1), ("right", .ref rgt)]) C ?k6 ?k7 ?kd ?ku ?k9 ?kB ?_ ?c2 ?c3 ?c4 ?c5
  (case k6 => k_is); (case k7 => k_is); (case kd => omega); (case ku => exact C.u); (case k9 => exact rfl); (case kB => exact rfl); (case c2 => exact rfl); (case c3 => exact rfl); (case c4 => exact rfl); (case c5 => decide)
  intro h₀' L' h' C'
  clear C
  repeat walk_at "m.s"
  obtain ⟨hi, he⟩ := Found.at (ea := []) (eb := []) ‹Found _ _ _ _› (fun e h => nomatch h) (fun e h => nomatch h)
  subst hi; subst he
  repeat walk_at "m.s"
  have CC := ‹Cx w _ _ (_ :: news) _›
  have lT := ‹∀ p ∈ news, p.1 < _›
  refine n_insE (p := []) (r := []) (by walk_at "m.C") (NodeIn.cons H) hll rfl (Nat.zero_le _) ?_
  intro h1 news1 q1 s1 C1 H1 ch1
  repeat walk_at "m.s"
  rename_i D _ C2 l2
  walk_at "m.setC"
  intro h2 news2 q2 d1 d2 d3 d4 d5 C3 H3 ch3
  repeat walk_at "m.s"
  walk_at "m.end"
  refine fun Cc => k _ _ _ q2 Cc (d1.trans s1.dn) (d2.trans s1.le) (d4.trans s1.cr) (d5.trans s1.t) ?_ H3 (((((Ch.refl (fp := q.fp)).push lT (tupOf _)).step ch1 (by simp)).push l2 (listOf _ 0)).step ch3 (by rw [s1.dn]; simp) |>.to ?_) ?_ ?_
  · rw [d3]
    intro y hy
    by_cases hd : D ∈ [q.le]
    · rw [List.mem_singleton.mp hd, ← s1.le] at l2
      exact Nat.lt_irrefl _ (l2 _ H1.e)
    · exact Nat.lt_irrefl _ (l2 _ (ch1.keep (.tail _ hy) hd))
  · intro b hb
    rw [show q2.fp = [q.dn, q.le, D] from by simp only [NK.fp, d1, d2, d3, s1.dn, s1.le]] at hb
    simp only [List.mem_cons, List.not_mem_nil, or_false] at hb
    rcases hb with rfl | rfl | rfl <;> simp
  · rw [d3, d2]; exact (H1.ab l2).le
  · rw [d3, d1]; exact (H1.ab l2).dn
end

local macro_rules | `(tactic| walk_at "m.s") => `(tactic| ((with_reducible refine' s_unpack2 ?C ?m ?hA ?_); (case C => walk_at "m.C"); (case m => walk_at "m.mem"); (case hA => exact rfl); intro _ _))
local macro_rules | `(tactic| walk_at "m.call") => `(tactic| ((with_reducible refine' c_search ?C ?H ?HE ?hs ?hk ?hz ?d ?_); (case C => walk_at "m.C"); (case H => walk_at "m.nd"); (case HE => assumption); (case hs => assumption); (case hk => assumption); (case hz => omega); (case d => walk_at "m.dp"); intro _ _ _ _ _ _ _ _ _))

section

-- N7
def Dj (a b : NK) : Prop := ∀ x ∈ a.fp, x ∉ b.fp
theorem Sm.fp {a b : NK} (s : Sm a b) : b.fp = a.fp := by simp only [NK.fp, s.dn, s.le, s.lc]
theorem Dj.l {a a' b : NK} (j : Dj a b) (s : Sm a a') : Dj a' b := by unfold Dj; rw [s.fp]; exact j
theorem Dj.r {a b b' : NK} (j : Dj a b) (s : Sm b b') : Dj a b' := by unfold Dj; rw [s.fp]; exact j
theorem Dj.symm {a b : NK} (j : Dj a b) : Dj b a := fun x h1 h2 => j x h2 h1
theorem NodeIn.far {P : Params} {n1 n2 : List (Addr × Obj)} {n : Addr} {a b : NK} {lf : Bool} {vs cs : List Value} {x : Addr} (H : NodeIn P n1 n b lf vs cs) (c : Ch n1 [x] n2 [x]) (j : Dj a b) (hx : x ∈ a.fp) : NodeIn P n2 n b lf vs cs :=
  H.ch c (fun h => j x hx (List.mem_singleton.mp h ▸ by simp)) (fun h => j x hx (List.mem_singleton.mp h ▸ by simp)) (fun h => j x hx (List.mem_singleton.mp h ▸ by simp))
theorem vals_set (ea : List (Addr × Int)) (e x : Addr × Int) (eb : List (Addr × Int)) : (vals (ea ++ e :: eb)).set ea.length (.ref x.1) = vals (ea ++ x :: eb) := by
  unfold vals; rw [List.map_append, List.map_append]; simp
section
variable {w : World} {f : Fm} {m : PySem.Str → Option Value} {news : List (Addr × Obj)} {h : Heap} {E : Value → Shared → Prop}
  {g : Array GenState} {d : Drawn} {tk : Nat} {o : OsState} {Q : Value → Shared → Prop}
variable {A : Around} {p l s r : Addr} {qp ql qs qr : NK} {lf : Bool} {lcs scs lc yl ca cb rc : List Value} {ea eb lv sv rv : List (Addr × Int)} {e x : Addr × Int} {i : Int} {t : Tok} {T : Nat}
local macro_rules | `(tactic| walk_at "m.call") => `(tactic| ((with_reducible refine' c_cow_child ?C ?H ?h0 ?hx ?hz ?HC ?hcr ?d ?_); (case C => walk_at "m.C"); (case H => walk_at "m.nd"); (case h0 => omega); (case hx => assumption); (case hz => walk_at "m.len"); (case HC => walk_at "m.nd"); (case hcr => assumption); (case d => walk_at "m.dp"); intro _ _ _))
theorem c_lsteal (C : Cx w f m news h) (HP : NodeIn w.params news p qp false (vals (ea ++ e :: eb)) (ca ++ .ref l :: .ref s :: cb)) (hca : ca.length = ea.length) (hi : i = (ea.length : Int) + 1) (hcz : (ca ++ .ref l :: .ref s :: cb).length ≤ 100) (hez : (vals (ea ++ e :: eb)).length ≤ 100)
    (HL : NodeIn w.params news l ql lf (vals (lv ++ [x])) (lc ++ yl)) (HS : NodeIn w.params news s qs lf (vals sv) scs) (hyl : lf = true → lc = [] ∧ yl = []) (hyl' : lf = false → ∃ y, yl = [y])
    (hlz : T - 1 ≤ (lv ++ [x]).length) (hlz' : (lv ++ [x]).length ≤ 2 * T - 1) (hlcz : (lc ++ yl).length ≤ 100) (hsz : sv.length ≤ 100) (hscz : scs.length ≤ 100) (htl : ql.t = T) (h3 : 3 ≤ T) (h5 : T ≤ 5) (hcr : ql.cr = qp.cr) (d1 : Dj qp ql) (d2 : Dj qp qs) (d3 : Dj ql qs) (o1 : qp.lc ≠ qp.le) (o2 : ql.lc ≠ ql.le) (o3 : qs.lc ≠ qs.le) (hd : f.dp + 3 < 1000)
    (k0 : lv.length + 1 = T - 1 → ∀ h' tk', Cx w f m news h' → Q (.bool false) ⟨h', g, d, tk', o⟩)
    (k1 : lv.length + 1 ≠ T - 1 → ∀ h' tk' news' qp' ql' qs', Cx w f m news' h' → Sm qp qp' → Sm ql ql' → Sm qs qs' → NodeIn w.params news' p qp' false (vals (ea ++ x :: eb)) (ca ++ .ref l :: .ref s :: cb) → NodeIn w.params news' l ql' lf (vals lv) lc → NodeIn w.params news' s qs' lf (vals (e :: sv)) (yl ++ scs) →
      Ch news (qp.fp ++ ql.fp ++ qs.fp) news' (qp.fp ++ ql.fp ++ qs.fp) → Q (.bool true) ⟨h', g, d, tk', o⟩) :
    wpAny (MM w) (AR f) (call (.ref 344) [.ref s, .ref p, .int i t]) Q E ⟨h, g, d, tk, o⟩ := by
  have g1 : (ca ++ .ref l :: .ref s :: cb)[(i - 1).toNat]? = some (.ref l) := by rw [hi, ← hca]; simp
  have g2 : (vals (ea ++ e :: eb))[(i - 1).toNat]? = some (.ref e.1) := by rw [hi, vals_append, vals_cons, show ((ea.length : Int) + 1 - 1).toNat = (vals ea).length by rw [vals_length]; omega]; simp
  have g3 : (vals (lv ++ [x])).length = lv.length + 1 := by rw [vals_length, List.length_append]; rfl
  rw [List.length_append] at hlz hlz'
  have z1 : [x].length = 1 := rfl
  rw [List.length_append] at hlcz
  refine' enter (binds := [("self", .ref s), ("parent", .ref p), ("index", .int i t)]) C ?k6 ?k7 ?kd ?k9 ?kB ?_ ?c2 ?c3 ?c4 ?c5
  (case k6 => k_is); (case k7 => k_is); (case kd => omega); (case k9 => exact rfl); (case kB => exact rfl); (case c2 => exact rfl); (case c3 => exact rfl); (case c4 => exact rfl); (case c5 => decide)
  intro h₀' L' h' C'
  clear C
  repeat walk_at "m.s"
  walk_at "m.getC"
  repeat walk_at "m.s"
  refine ifB_dec (fun h2 => ?_) (fun h2 => ?_)
  · repeat walk_at "m.s"
    walk_at "m.end"
    exact fun Cc => k0 (by omega) _ _ Cc
  · repeat walk_at "m.s"
    walk_at "m.getV"
    repeat walk_at "m.s"
    refine n_popE (ws := vals lv) (by walk_at "m.C") (by have := HL; rw [vals_append] at this; exact this) o2 (by rw [vals_length]; omega) ?_
    intro h1 news1 ql1 sl1 C1 HL1 ch1
    have HP1 := HP.far ch1 d1.symm (by simp)
    have HS1 := HS.far ch1 d3 (by simp)
    repeat walk_at "m.s"
    have hgt : (i - 1).toNat = ea.length := by omega
    refine n_putE (by walk_at "m.C") HP1 o1 (by omega) (by rw [vals_length, List.length_append, List.length_cons]; omega) (by omega) ?_
    intro h2 news2 C2 HP2 ch2
    rw [hgt, vals_set] at HP2
    have HL2 := HL1.far ch2 (d1.r sl1) (by simp)
    have HS2 := HS1.far ch2 d2 (by simp)
    repeat walk_at "m.s"
    refine n_insE (p := []) (r := vals sv) (by walk_at "m.C") HS2 o3 rfl (by show (vals sv).length ≤ 1000; rw [vals_length]; omega) ?_
    intro h3 news3 qs3 ss3 C3 HS3 ch3
    have HP3 := HP2.far ch3 d2.symm (by simp)
    have HL3 := HL2.far ch3 (d3.symm.r sl1) (by simp)
    have c3 := (((Ch.refl (fp := qp.fp ++ ql.fp ++ qs.fp)).step ch1 (by simp)).step ch2 (by simp)).step ch3 (by simp)
    repeat walk_at "m.s"
    refine ifB_split (fun hlf => ?_) (fun hlf => ?_)
    all_goals (try subst hlf)
    · obtain ⟨rfl, rfl⟩ := hyl rfl
      repeat walk_at "m.s"
      walk_at "m.end"
      exact fun Cc => k1 (by omega) _ _ _ qp ql1 qs3 Cc Sm.rfl sl1 ss3 HP3 HL3 HS3 c3
    · obtain ⟨y, rfl⟩ := hyl' rfl
      have z2 : [y].length = 1 := rfl
      repeat walk_at "m.s"
      refine n_popC (ws := lc) (by walk_at "m.C") HL3 (by rw [sl1.lc, sl1.le]; exact o2) (by omega) ?_
      intro h4 news4 ql4 sl4 C4 HL4 ch4
      rw [sl1.lc] at ch4
      have HP4 := HP3.far ch4 d1.symm (by simp)
      have HS4 := HS3.far ch4 (d3.r ss3) (by simp)
      repeat walk_at "m.s"
      refine n_insC (p := []) (r := scs) (by walk_at "m.C") HS4 (by rw [ss3.lc, ss3.le]; exact o3) rfl (by show scs.length ≤ 1000; omega) ?_
      intro h5 news5 qs5 ss5 C5 HS5 ch5
      rw [ss3.lc] at ch5
      have HP5 := HP4.far ch5 d2.symm (by simp)
      have HL5 := HL4.far ch5 ((d3.symm.r sl1).r sl4) (by simp)
      repeat walk_at "m.s"
      walk_at "m.end"
      exact fun Cc => k1 (by omega) _ _ _ qp ql4 qs5 Cc Sm.rfl (sl1.trans sl4) (ss3.trans ss5) HP5 HL5 HS5 ((c3.step ch4 (by simp)).step ch5 (by simp))
theorem c_lsteal0 (C : Cx w f m news h) (hd : f.dp + 3 < 1000) (k0 : ∀ h' tk', Cx w f m news h' → Q (.bool false) ⟨h', g, d, tk', o⟩) :
    wpAny (MM w) (AR f) (call (.ref 344) [.ref s, .ref p, .int 0 t]) Q E ⟨h, g, d, tk, o⟩ := by
  refine' enter (binds := [("self", .ref s), ("parent", .ref p), ("index", .int 0 t)]) C ?k6 ?k7 ?kd ?k9 ?kB ?_ ?c2 ?c3 ?c4 ?c5
  (case k6 => k_is); (case k7 => k_is); (case kd => omega); (case k9 => exact rfl); (case kB => exact rfl); (case c2 => exact rfl); (case c3 => exact rfl); (case c4 => exact rfl); (case c5 => decide)
  intro h₀' L' h' C'
  clear C
  repeat walk_at "m.s"
  walk_at "m.end"
  exact fun Cc => k0 _ _ Cc
theorem c_rsteal0 {vp cp : List Value} (C : Cx w f m news h) (HP : NodeIn w.params news p qp false vp cp) (hi : i + 1 = cp.length) (hcz : cp.length ≤ 100) (hd : f.dp + 3 < 1000) (k0 : ∀ h' tk', Cx w f m news h' → Q (.bool false) ⟨h', g, d, tk', o⟩) :
    wpAny (MM w) (AR f) (call (.ref 351) [.ref s, .ref p, .int i t]) Q E ⟨h, g, d, tk, o⟩ := by
  refine' enter (binds := [("self", .ref s), ("parent", .ref p), ("index", .int i t)]) C ?k6 ?k7 ?kd ?k9 ?kB ?_ ?c2 ?c3 ?c4 ?c5
  (case k6 => k_is); (case k7 => k_is); (case kd => omega); (case k9 => exact rfl); (case kB => exact rfl); (case c2 => exact rfl); (case c3 => exact rfl); (case c4 => exact rfl); (case c5 => decide)
  intro h₀' L' h' C'
  clear C
  repeat walk_at "m.s"
  walk_at "m.end"
  exact fun Cc => k0 _ _ Cc
theorem c_rsteal (C : Cx w f m news h) (HP : NodeIn w.params news p qp false (vals (ea ++ e :: eb)) (ca ++ .ref s :: .ref l :: cb)) (hca : ca.length = ea.length) (hi : i = (ea.length : Int)) (hcz : (ca ++ .ref s :: .ref l :: cb).length ≤ 100) (hez : (vals (ea ++ e :: eb)).length ≤ 100)
    (HL : NodeIn w.params news l ql lf (vals (x :: rv)) (yl ++ rc)) (HS : NodeIn w.params news s qs lf (vals sv) scs) (hyl : lf = true → scs = [] ∧ rc = [] ∧ yl = []) (hyl' : lf = false → ∃ y, yl = [y])
    (hlz : T - 1 ≤ (x :: rv).length) (hlz' : (x :: rv).length ≤ 2 * T - 1) (hlcz : (yl ++ rc).length ≤ 100) (hsz : sv.length ≤ 100) (hscz : scs.length ≤ 100) (htl : ql.t = T) (h3 : 3 ≤ T) (h5 : T ≤ 5) (hcr : ql.cr = qp.cr) (d1 : Dj qp ql) (d2 : Dj qp qs) (d3 : Dj ql qs) (o1 : qp.lc ≠ qp.le) (o2 : ql.lc ≠ ql.le) (o3 : qs.lc ≠ qs.le) (hd : f.dp + 3 < 1000)
    (k0 : rv.length + 1 = T - 1 → ∀ h' tk', Cx w f m news h' → Q (.bool false) ⟨h', g, d, tk', o⟩)
    (k1 : rv.length + 1 ≠ T - 1 → ∀ h' tk' news' qp' ql' qs', Cx w f m news' h' → Sm qp qp' → Sm ql ql' → Sm qs qs' → NodeIn w.params news' p qp' false (vals (ea ++ x :: eb)) (ca ++ .ref s :: .ref l :: cb) → NodeIn w.params news' l ql' lf (vals rv) rc → NodeIn w.params news' s qs' lf (vals (sv ++ [e])) (scs ++ yl) →
      Ch news (qp.fp ++ ql.fp ++ qs.fp) news' (qp.fp ++ ql.fp ++ qs.fp) → Q (.bool true) ⟨h', g, d, tk', o⟩) :
    wpAny (MM w) (AR f) (call (.ref 351) [.ref s, .ref p, .int i t]) Q E ⟨h, g, d, tk, o⟩ := by
  have g1 : (ca ++ .ref s :: .ref l :: cb)[(i + 1).toNat]? = some (.ref l) := by rw [hi, ← hca, show ((ca.length : Int) + 1).toNat = ca.length + 1 by omega]; simp
  have g2 : (vals (ea ++ e :: eb))[i.toNat]? = some (.ref e.1) := by rw [hi, vals_append, vals_cons, show ((ea.length : Int)).toNat = (vals ea).length by rw [vals_length]; omega]; simp
  have g3 : (vals (x :: rv)).length = rv.length + 1 := by rw [vals_length]; rfl
  have g4 : (ca ++ Value.ref s :: .ref l :: cb).length = ea.length + 2 + cb.length := by rw [List.length_append, List.length_cons, List.length_cons, hca]; omega
  rw [List.length_cons] at hlz hlz'
  rw [List.length_append] at hlcz
  have g5 : i + 1 < (ca ++ Value.ref s :: .ref l :: cb).length := by omega
  refine' enter (binds := [("self", .ref s), ("parent", .ref p), ("index", .int i t)]) C ?k6 ?k7 ?kd ?k9 ?kB ?_ ?c2 ?c3 ?c4 ?c5
  (case k6 => k_is); (case k7 => k_is); (case kd => omega); (case k9 => exact rfl); (case kB => exact rfl); (case c2 => exact rfl); (case c3 => exact rfl); (case c4 => exact rfl); (case c5 => decide)
  intro h₀' L' h' C'
  clear C
  repeat walk_at "m.s"
  walk_at "m.getC"
  repeat walk_at "m.s"
  refine ifB_dec (fun h2 => ?_) (fun h2 => ?_)
  · repeat walk_at "m.s"
    walk_at "m.end"
    exact fun Cc => k0 (by omega) _ _ Cc
  · repeat walk_at "m.s"
    walk_at "m.getV"
    repeat walk_at "m.s"
    refine n_pop0E (ws := vals rv) (by walk_at "m.C") HL o2 (by rw [vals_length]; omega) ?_
    intro h1 news1 ql1 sl1 C1 HL1 ch1
    have HP1 := HP.far ch1 d1.symm (by simp)
    have HS1 := HS.far ch1 d3 (by simp)
    repeat walk_at "m.s"
    have hgt : i.toNat = ea.length := by omega
    refine n_putE (by walk_at "m.C") HP1 o1 (by omega) (by rw [vals_length, List.length_append, List.length_cons]; omega) (by omega) ?_
    intro h2 news2 C2 HP2 ch2
    rw [hgt, vals_set] at HP2
    have HL2 := HL1.far ch2 (d1.r sl1) (by simp)
    have HS2 := HS1.far ch2 d2 (by simp)
    repeat walk_at "m.s"
    refine n_appE (by walk_at "m.C") HS2 o3 (by rw [vals_length]; omega) ?_
    intro h3 news3 qs3 ss3 C3 HS3 ch3
    rw [show vals sv ++ [.ref e.1] = vals (sv ++ [e]) from by rw [vals_append]; rfl] at HS3
    have HP3 := HP2.far ch3 d2.symm (by simp)
    have HL3 := HL2.far ch3 (d3.symm.r sl1) (by simp)
    have c3 := (((Ch.refl (fp := qp.fp ++ ql.fp ++ qs.fp)).step ch1 (by simp)).step ch2 (by simp)).step ch3 (by simp)
    repeat walk_at "m.s"
    refine ifB_split (fun hlf => ?_) (fun hlf => ?_)
    all_goals (try subst hlf)
    · obtain ⟨rfl, rfl, rfl⟩ := hyl rfl
      repeat walk_at "m.s"
      walk_at "m.end"
      exact fun Cc => k1 (by omega) _ _ _ qp ql1 qs3 Cc Sm.rfl sl1 ss3 HP3 HL3 HS3 c3
    · obtain ⟨y, rfl⟩ := hyl' rfl
      have z2 : [y].length = 1 := rfl
      repeat walk_at "m.s"
      refine n_pop0C (ws := rc) (by walk_at "m.C") HL3 (by rw [sl1.lc, sl1.le]; exact o2) (by omega) ?_
      intro h4 news4 ql4 sl4 C4 HL4 ch4
      rw [sl1.lc] at ch4
      have HP4 := HP3.far ch4 d1.symm (by simp)
      have HS4 := HS3.far ch4 (d3.r ss3) (by simp)
      repeat walk_at "m.s"
      refine n_appC (by walk_at "m.C") HS4 (by rw [ss3.lc, ss3.le]; exact o3) (by omega) ?_
      intro h5 news5 qs5 ss5 C5 HS5 ch5
      rw [ss3.lc] at ch5
      have HP5 := HP4.far ch5 d2.symm (by simp)
      have HL5 := HL4.far ch5 ((d3.symm.r sl1).r sl4) (by simp)
      repeat walk_at "m.s"
      walk_at "m.end"
      exact fun Cc => k1 (by omega) _ _ _ qp ql4 qs5 Cc Sm.rfl (sl1.trans sl4) (ss3.trans ss5) HP5 HL5 HS5 ((c3.step ch4 (by simp)).step ch5 (by simp))
theorem c_merge (C : Cx w f m news h) (HP : NodeIn w.params news p qp false (vals (ea ++ e :: eb)) (ca ++ .ref s :: .ref r :: cb)) (hca : ca.length = ea.length) (hi : i = (ea.length : Int)) (hcz : (ca ++ .ref s :: .ref r :: cb).length ≤ 100) (hez : (vals (ea ++ e :: eb)).length ≤ 100)
    (HR : NodeIn w.params news r qr lf (vals rv) rc) (HS : NodeIn w.params news s qs lf (vals sv) scs) (hyl : lf = true → scs = [] ∧ rc = []) (hyl' : lf = false → rc.length ≠ 0)
    (hrz : rv.length ≤ 100) (hr0 : rv.length ≠ 0) (hrcz : rc.length ≤ 100) (hsz : sv.length ≤ 100) (hscz : scs.length ≤ 100) (d1 : Dj qp qr) (d2 : Dj qp qs) (d3 : Dj qr qs) (o1 : qp.lc ≠ qp.le) (o3 : qs.lc ≠ qs.le) (hd : f.dp + 3 < 1000)
    (k : ∀ h' tk' news' qp' qs', Cx w f m news' h' → Sm qp qp' → Sm qs qs' → NodeIn w.params news' p qp' false (vals (ea ++ eb)) (ca ++ .ref s :: cb) → NodeIn w.params news' s qs' lf (vals (sv ++ e :: rv)) (scs ++ rc) →
      Ch news (qp.fp ++ qs.fp) news' (qp.fp ++ qs.fp) → Q .none ⟨h', g, d, tk', o⟩) :
    wpAny (MM w) (AR f) (call (.ref 365) [.ref s, .ref p, .int i t]) Q E ⟨h, g, d, tk, o⟩ := by
  refine' enter (binds := [("self", .ref s), ("parent", .ref p), ("index", .int i t)]) C ?k6 ?k7 ?kd ?k9 ?kB ?_ ?c2 ?c3 ?c4 ?c5
  (case k6 => k_is); (case k7 => k_is); (case kd => omega); (case k9 => exact rfl); (case kB => exact rfl); (case c2 => exact rfl); (case c3 => exact rfl); (case c4 => exact rfl); (case c5 => decide)
  intro h₀' L' h' C'
  clear C
  repeat walk_at "m.s"
  have z1 : [Value.ref s].length = 1 := rfl
  refine n_popAtC (p := ca ++ [.ref s]) (y := .ref r) (r := cb) (by walk_at "m.C") (by rw [List.append_assoc]; exact HP) o1 (by rw [List.length_append]; omega) (by rw [List.append_assoc]; exact Nat.le_trans hcz (by omega)) ?_
  intro h1 news1 qp1 sp1 C1 HP1 ch1
  rw [List.append_assoc] at HP1
  have HR1 := HR.far ch1 d1 (by simp)
  have HS1 := HS.far ch1 d2 (by simp)
  repeat walk_at "m.s"
  refine n_popAtE (p := vals ea) (y := .ref e.1) (r := vals eb) (by walk_at "m.C") (by have := HP1; rw [vals_append] at this; exact this) (by rw [sp1.lc, sp1.le]; exact o1) (by rw [vals_length]; exact hi) (by rw [vals_append] at hez; exact Nat.le_trans hez (by omega)) ?_
  intro h2 news2 qp2 sp2 C2 HP2 ch2
  rw [sp1.le] at ch2
  rw [← vals_append] at HP2
  have HR2 := HR1.far ch2 d1 (by simp)
  have HS2 := HS1.far ch2 d2 (by simp)
  repeat walk_at "m.s"
  refine n_appE (by walk_at "m.C") HS2 o3 (by rw [vals_length]; omega) ?_
  intro h3 news3 qs3 ss3 C3 HS3 ch3
  rw [show vals sv ++ [.ref e.1] = vals (sv ++ [e]) from by rw [vals_append]; rfl] at HS3
  have HP3 := HP2.far ch3 ((d2.symm.r sp1).r sp2) (by simp)
  have HR3 := HR2.far ch3 d3.symm (by simp)
  repeat walk_at "m.s"
  refine n_extE (by walk_at "m.C") HS3 (by rw [ss3.lc, ss3.le]; exact o3) HR3.e (by rw [ss3.le]; exact fun z => d3 qr.le (by simp) (z ▸ by simp)) (by rw [vals_length]; exact hr0) (by rw [vals_length, vals_length, List.length_append, List.length_singleton]; omega) ?_
  intro h4 news4 qs4 ss4 C4 HS4 ch4
  rw [ss3.le] at ch4
  rw [← vals_append, List.append_assoc] at HS4
  have HP4 := HP3.far ch4 ((d2.symm.r sp1).r sp2) (by simp)
  have HR4 := HR3.far ch4 d3.symm (by simp)
  have c4 := ((((Ch.refl (fp := qp.fp ++ qs.fp)).step ch1 (by simp)).step ch2 (by simp)).step ch3 (by simp)).step ch4 (by simp)
  repeat walk_at "m.s"
  refine ifB_split (fun hlf => ?_) (fun hlf => ?_)
  all_goals (try subst hlf)
  · obtain ⟨rfl, rfl⟩ := hyl rfl
    repeat walk_at "m.s"
    walk_at "m.end"
    exact fun Cc => k _ _ _ qp2 qs4 Cc (sp1.trans sp2) (ss3.trans ss4) HP4 HS4 c4
  · have hl' := hyl' rfl
    repeat walk_at "m.s"
    refine n_extC (by walk_at "m.C") HS4 (by rw [ss4.lc, ss4.le, ss3.lc, ss3.le]; exact o3) HR4.c (by rw [ss4.lc, ss3.lc]; exact fun z => d3 qr.lc (by simp) (z ▸ by simp)) hl' (by omega) ?_
    intro h5 news5 qs5 ss5 C5 HS5 ch5
    rw [ss4.lc, ss3.lc] at ch5
    have HP5 := HP4.far ch5 ((d2.symm.r sp1).r sp2) (by simp)
    repeat walk_at "m.s"
    walk_at "m.end"
    exact fun Cc => k _ _ _ qp2 qs5 Cc (sp1.trans sp2) ((ss3.trans ss4).trans ss5) HP5 HS5 (c4.step ch5 (by simp))
end

local macro_rules | `(tactic| walk_at "m.call") => `(tactic| ((with_reducible refine' c_cow_child ?C ?H ?h0 ?hx ?hz ?HC ?hcr ?d ?_); (case C => walk_at "m.C"); (case H => walk_at "m.nd"); (case h0 => omega); (case hx => assumption); (case hz => walk_at "m.len"); (case HC => walk_at "m.nd"); (case hcr => assumption); (case d => walk_at "m.dp"); intro _ _ _))

-- T1
-- TREES: kids, their numbers and cells
structure Kid where
  a : Addr
  ks : List Int
  fp : List Addr
  sz : Nat
def refs (kids : List Kid) : List Value := kids.map fun k => .ref k.a
def keys (es : List (Addr × Int)) : List Int := es.map (·.2)
/-- the numbers of a node in their order: a child's, an element's, a child's .. -/
def inter : List (List Int) → List Int → List Int
  | [], es => es
  | s :: ss, [] => s ++ inter ss []
  | s :: ss, e :: es => s ++ e :: inter ss es
def kss (kids : List Kid) : List (List Int) := kids.map (·.ks)
def fps (kids : List Kid) : List Addr := kids.flatMap (·.fp)
/-- what lies behind a child: an element, a child, .. -/
def tailI : List (List Int) → List Int → List Int
  | b :: B, e :: EB => e :: b ++ tailI B EB
  | _, _ => []
theorem inter_nil (es : List Int) : inter [] es = es := by cases es <;> rfl
theorem inter_split : ∀ (A : List (List Int)) (EA : List Int) (B : List (List Int)) (EB : List Int), A.length = EA.length → inter (A ++ B) (EA ++ EB) = inter A EA ++ inter B EB
  | [], [], B, EB, _ => rfl
  | a :: A, e :: EA, B, EB, h => by
    show a ++ e :: inter (A ++ B) (EA ++ EB) = (a ++ e :: inter A EA) ++ inter B EB
    rw [inter_split A EA B EB (by simpa using h)]
    simp
  | [], _ :: _, _, _, h => by simp at h
  | _ :: _, [], _, _, h => by simp at h
theorem inter_cons : ∀ (s : List Int) (B : List (List Int)) (EB : List Int), B.length = EB.length → inter (s :: B) EB = s ++ tailI B EB
  | s, [], [], _ => by show s ++ inter [] [] = _; rw [inter_nil]; rfl
  | s, b :: B, e :: EB, h => by
    show s ++ e :: inter (b :: B) EB = s ++ (e :: b ++ tailI B EB)
    rw [inter_cons b B EB (by simpa using h)]
    simp
  | _, [], _ :: _, h => by simp at h
  | _, _ :: _, [], h => by simp at h
theorem inter_join : ∀ (A : List (List Int)) (EA : List Int) (e : Int) (B : List (List Int)) (EB : List Int), A.length = EA.length + 1 → inter (A ++ B) (EA ++ e :: EB) = inter A EA ++ e :: inter B EB
  | [a], [], e, B, EB, _ => by show a ++ e :: inter B EB = (a ++ inter [] []) ++ _; rw [inter_nil, List.append_nil]
  | a :: A, x :: EA, e, B, EB, h => by
    show a ++ x :: inter (A ++ B) (EA ++ e :: EB) = (a ++ x :: inter A EA) ++ e :: inter B EB
    rw [inter_join A EA e B EB (by simpa using h)]
    simp
  | [], _, _, _, _, h => by simp at h
  | _ :: _ :: _, [], _, _, _, h => by simp at h
theorem inter_sub : ∀ (A : List (List Int)) (EA : List Int), EA.Sublist (inter A EA)
  | [], es => by rw [inter_nil]; exact List.Sublist.refl _
  | s :: ss, [] => List.nil_sublist _
  | s :: ss, e :: es => ((inter_sub ss es).cons_cons e).trans (List.sublist_append_right s _)
theorem refs_append (a b : List Kid) : refs (a ++ b) = refs a ++ refs b := List.map_append
theorem kss_append (a b : List Kid) : kss (a ++ b) = kss a ++ kss b := List.map_append
theorem keys_append (a b : List (Addr × Int)) : keys (a ++ b) = keys a ++ keys b := List.map_append
theorem fps_append (a b : List Kid) : fps (a ++ b) = fps a ++ fps b := List.flatMap_append
theorem refs_cons (a : Kid) (b : List Kid) : refs (a :: b) = .ref a.a :: refs b := rfl
theorem kss_cons (a : Kid) (b : List Kid) : kss (a :: b) = a.ks :: kss b := rfl
theorem keys_cons (a : Addr × Int) (b : List (Addr × Int)) : keys (a :: b) = a.2 :: keys b := rfl
theorem fps_cons (a : Kid) (b : List Kid) : fps (a :: b) = a.fp ++ fps b := List.flatMap_cons
theorem refs_length (a : List Kid) : (refs a).length = a.length := List.length_map ..
theorem kss_length (a : List Kid) : (kss a).length = a.length := List.length_map ..
theorem keys_length (a : List (Addr × Int)) : (keys a).length = a.length := List.length_map ..
/-- the numbers about the child c -/
theorem ks_at {ka kb : List Kid} {c : Kid} {ea eb : List (Addr × Int)} (h1 : ka.length = ea.length) (h2 : kb.length = eb.length) :
    inter (kss (ka ++ c :: kb)) (keys (ea ++ eb)) = inter (kss ka) (keys ea) ++ (c.ks ++ tailI (kss kb) (keys eb)) := by
  rw [kss_append, keys_append, inter_split _ _ _ _ (by rw [kss_length, keys_length, h1]), kss_cons, inter_cons _ _ _ (by rw [kss_length, keys_length, h2])]

abbrev Inc (l : List Int) : Prop := l.Pairwise (· < ·)
theorem Inc.keys {A : List (List Int)} {es : List (Addr × Int)} (h : Inc (inter A (keys es))) : Asc es := by
  have := h.sublist (inter_sub _ _)
  exact List.pairwise_map.mp this
theorem keys_mem {es : List (Addr × Int)} {e : Addr × Int} (h : e ∈ es) : e.2 ∈ keys es := List.mem_map.mpr ⟨e, h, rfl⟩
theorem inter_mem {A : List (List Int)} {es : List (Addr × Int)} {e : Addr × Int} (h : e ∈ es) : e.2 ∈ inter A (keys es) := (inter_sub A _).subset (keys_mem h)
theorem tailI_mem : ∀ {B : List (List Int)} {es : List (Addr × Int)} {e : Addr × Int}, B.length = es.length → e ∈ es → e.2 ∈ tailI B (keys es)
  | b :: B, x :: es, e, hl, h => by
    rw [keys_cons]
    show e.2 ∈ x.2 :: b ++ tailI B (keys es)
    rcases List.mem_cons.mp h with rfl | h
    · simp
    · exact List.mem_append_right _ (tailI_mem (by simpa using hl) h)
  | [], x :: es, e, hl, h => by simp at hl
  | _, [], e, hl, h => nomatch h
/-- left of the child all is smaller, when the elements there are -/
theorem left_lt {A : List (List Int)} {EA : List Int} {k : Int} (hl : A.length = EA.length) (hi : Inc (inter A EA)) (h : ∀ e ∈ EA, e < k) : ∀ x ∈ inter A EA, x < k := by
  intro x hx
  rcases List.eq_nil_or_concat EA with rfl | ⟨EA', e, rfl⟩
  · rw [List.length_eq_zero_iff.mp hl, inter_nil] at hx; nomatch hx
  · rw [List.concat_eq_append] at *
    rcases List.eq_nil_or_concat A with rfl | ⟨A', a, rfl⟩
    · simp at hl
    · rw [List.concat_eq_append] at *
      have e1 : inter (A' ++ [a]) (EA' ++ [e]) = (inter A' EA' ++ a) ++ [e] := by
        rw [inter_split _ _ _ _ (by simpa using hl)]
        show _ ++ (a ++ e :: inter [] []) = _
        rw [inter_nil]; simp
      rw [e1] at hx hi
      have he := h e (by simp)
      rcases List.mem_append.mp hx with hx | hx
      · have := (List.pairwise_append.mp hi).2.2 x hx e (by simp); omega
      · rw [List.mem_singleton.mp hx]; exact he
theorem right_lt : ∀ {B : List (List Int)} {EB : List Int} {k : Int}, Inc (tailI B EB) → (∀ e ∈ EB, k < e) → ∀ x ∈ tailI B EB, k < x
  | b :: B, e :: EB, k, hi, h, x, hx => by
    have he := h e (by simp)
    rcases List.mem_cons.mp (show x ∈ e :: (b ++ tailI B EB) from hx) with rfl | hx
    · exact he
    · have := (List.pairwise_cons.mp (show Inc (e :: (b ++ tailI B EB)) from hi)).1 x hx; omega
  | [], _, _, _, _, x, hx => by simp [tailI] at hx
  | _ :: _, [], _, _, _, x, hx => by simp [tailI] at hx
/-- a number put in, taken out, turned into another -/
def insI (k : Int) (l : List Int) : List Int := l.filter (· < k) ++ k :: l.filter (k < ·)
def delI (k : Int) (l : List Int) : List Int := l.filter (· ≠ k)
def repI (k s : Int) (l : List Int) : List Int := l.map fun x => if x = k then s else x
theorem filter_all {l : List Int} {p : Int → Bool} (h : ∀ x ∈ l, p x = true) : l.filter p = l := List.filter_eq_self.mpr h
theorem filter_none {l : List Int} {p : Int → Bool} (h : ∀ x ∈ l, p x = false) : l.filter p = [] := List.filter_eq_nil_iff.mpr fun x hx => by rw [h x hx]; exact Bool.false_ne_true
theorem insI_mid {L C R : List Int} {k : Int} (h1 : ∀ x ∈ L, x < k) (h2 : ∀ x ∈ R, k < x) : insI k (L ++ (C ++ R)) = L ++ (insI k C ++ R) := by
  unfold insI
  simp only [List.filter_append]
  rw [filter_all (l := L) (fun x hx => by simpa using h1 x hx), filter_none (l := R) (p := (· < k)) (fun x hx => by have := h2 x hx; simp; omega),
    filter_none (l := L) (fun x hx => by have := h1 x hx; simp; omega), filter_all (l := R) (p := (k < ·)) (fun x hx => by simpa using h2 x hx)]
  simp
theorem insI_new {L R : List Int} {k : Int} (h1 : ∀ x ∈ L, x < k) (h2 : ∀ x ∈ R, k < x) : insI k (L ++ R) = L ++ k :: R := by
  have := insI_mid (C := []) h1 h2
  simpa [insI] using this
theorem insI_old {L R : List Int} {k : Int} (h1 : ∀ x ∈ L, x < k) (h2 : ∀ x ∈ R, k < x) : insI k (L ++ k :: R) = L ++ k :: R := by
  have := insI_mid (C := [k]) h1 h2
  simpa [insI] using this
theorem delI_mid {L C R : List Int} {k : Int} (h1 : ∀ x ∈ L, x ≠ k) (h2 : ∀ x ∈ R, x ≠ k) : delI k (L ++ (C ++ R)) = L ++ (delI k C ++ R) := by
  unfold delI
  simp only [List.filter_append]
  rw [filter_all (l := L) (fun x hx => by simpa using h1 x hx), filter_all (l := R) (fun x hx => by simpa using h2 x hx)]
theorem repI_none {L : List Int} {k s : Int} (h : ∀ x ∈ L, x ≠ k) : repI k s L = L := by
  unfold repI
  conv => rhs; rw [← List.map_id L]
  exact List.map_congr_left fun x hx => if_neg (h x hx)
theorem repI_mid {L C R : List Int} {k s : Int} (h1 : ∀ x ∈ L, x ≠ k) (h2 : ∀ x ∈ R, x ≠ k) : repI k s (L ++ (C ++ R)) = L ++ (repI k s C ++ R) := by
  have a := repI_none (s := s) h1
  have b := repI_none (s := s) h2
  unfold repI at *
  rw [List.map_append, List.map_append, a, b]
theorem Inc.parts {L C R : List Int} (h : Inc (L ++ (C ++ R))) : Inc L ∧ Inc C ∧ Inc R ∧ (∀ x ∈ L, ∀ y ∈ C, x < y) ∧ (∀ x ∈ L, ∀ y ∈ R, x < y) ∧ (∀ x ∈ C, ∀ y ∈ R, x < y) := by
  obtain ⟨a, b, c⟩ := List.pairwise_append.mp h
  obtain ⟨d, e, g⟩ := List.pairwise_append.mp b
  exact ⟨a, d, e, fun x hx y hy => c x hx y (List.mem_append_left _ hy), fun x hx y hy => c x hx y (List.mem_append_right _ hy), g⟩

structure View (P : Params) (cr : Addr) (T : Nat) (news : List (Addr × Obj)) (lf : Bool) (sub : Kid → Prop) (k : Kid) (q : NK) (es : List (Addr × Int)) (kids : List Kid) : Prop where
  nd : NodeIn P news k.a q lf (vals es) (refs kids)
  cr : q.cr = cr
  t : q.t = T
  el : ∀ e ∈ es, IsE P news e
  sz : k.sz = es.length
  ks : k.ks = inter (kss kids) (keys es)
  fp : k.fp = q.fp ++ fps kids
  kl : lf = true → kids = []
  kl' : lf = false → kids.length = es.length + 1
  kz : ∀ c ∈ kids, T - 1 ≤ c.sz ∧ c.sz ≤ 2 * T - 1 ∧ sub c
def TreeIn (P : Params) (cr : Addr) (T : Nat) (news : List (Addr × Obj)) : Nat → Kid → Prop
  | 0, k => ∃ q es kids, View P cr T news true (fun _ => False) k q es kids
  | h + 1, k => ∃ q es kids, View P cr T news false (TreeIn P cr T news h) k q es kids
/-- the trees below one of height h -/
def Sub (P : Params) (cr : Addr) (T : Nat) (news : List (Addr × Obj)) : Nat → Kid → Prop
  | 0, _ => False
  | h + 1, k => TreeIn P cr T news h k
abbrev VW (P : Params) (cr : Addr) (T : Nat) (news : List (Addr × Obj)) (h : Nat) := View P cr T news (decide (h = 0)) (Sub P cr T news h)
section
variable {P : Params} {cr : Addr} {T : Nat} {news n1 n2 : List (Addr × Obj)} {h : Nat} {k : Kid} {q : NK} {es : List (Addr × Int)} {kids : List Kid} {f1 f2 : List Addr}
theorem TreeIn.view (H : TreeIn P cr T news h k) : ∃ q es kids, VW P cr T news h k q es kids := by cases h <;> exact H
theorem View.tree (H : VW P cr T news h k q es kids) : TreeIn P cr T news h k := by cases h <;> exact ⟨q, es, kids, H⟩
theorem TreeIn.has : ∀ {h : Nat} {k : Kid}, TreeIn P cr T news h k → ∀ b ∈ k.fp, ∃ x, (b, x) ∈ news := by
  intro h
  induction h with
  | zero =>
    rintro k ⟨q, es, kids, V⟩ b hb
    rw [V.fp, V.kl rfl] at hb
    simp only [fps, List.flatMap_nil, List.append_nil] at hb
    obtain ⟨x, hx, _⟩ := V.nd.cells b hb; exact ⟨x, hx⟩
  | succ h ih =>
    rintro k ⟨q, es, kids, V⟩ b hb
    rw [V.fp] at hb
    rcases List.mem_append.mp hb with hb | hb
    · obtain ⟨x, hx, _⟩ := V.nd.cells b hb; exact ⟨x, hx⟩
    · obtain ⟨c, hc, hb⟩ := List.mem_flatMap.mp hb
      exact ih (V.kz c hc).2.2 b hb
theorem TreeIn.ch (c : Ch n1 f1 n2 f2) : ∀ {h : Nat} {k : Kid}, TreeIn P cr T n1 h k → (∀ b ∈ k.fp, b ∉ f1) → TreeIn P cr T n2 h k := by
  intro h
  induction h with
  | zero =>
    rintro k ⟨q, es, kids, V⟩ hd
    rw [V.fp] at hd
    exact ⟨q, es, kids, V.nd.ch c (hd _ (by simp)) (hd _ (by simp)) (hd _ (by simp)), V.cr, V.t, fun e he => (V.el e he).ch c, V.sz, V.ks, V.fp, V.kl, V.kl', fun c hc => absurd hc (by rw [V.kl rfl]; exact List.not_mem_nil)⟩
  | succ h ih =>
    rintro k ⟨q, es, kids, V⟩ hd
    rw [V.fp] at hd
    exact ⟨q, es, kids, V.nd.ch c (hd _ (by simp)) (hd _ (by simp)) (hd _ (by simp)), V.cr, V.t, fun e he => (V.el e he).ch c, V.sz, V.ks, V.fp, V.kl, V.kl',
      fun x hx => ⟨(V.kz x hx).1, (V.kz x hx).2.1, ih (V.kz x hx).2.2 fun b hb => hd b (List.mem_append_right _ (List.mem_flatMap.mpr ⟨x, hx, hb⟩))⟩⟩
theorem TreeIn.mono (H : TreeIn P cr T n1 h k) (s : ∀ p ∈ n1, p ∈ n2) : TreeIn P cr T n2 h k := H.ch (Ch.none s) fun _ _ h => nomatch h
theorem Sub.ch (c : Ch n1 f1 n2 f2) (H : Sub P cr T n1 h k) (hd : ∀ b ∈ k.fp, b ∉ f1) : Sub P cr T n2 h k := by
  cases h with
  | zero => exact H
  | succ h => exact TreeIn.ch c H hd
theorem View.mono (H : VW P cr T n1 h k q es kids) (s : ∀ p ∈ n1, p ∈ n2) : VW P cr T n2 h k q es kids :=
  ⟨H.nd.mono s, H.cr, H.t, fun e he => (H.el e he).mono s, H.sz, H.ks, H.fp, H.kl, H.kl', fun x hx => ⟨(H.kz x hx).1, (H.kz x hx).2.1, (H.kz x hx).2.2.ch (Ch.none s) fun _ _ h => nomatch h⟩⟩
end

-- T2
section
theorem VW.sizes {P : Params} {cr : Addr} {T : Nat} {news : List (Addr × Obj)} {h : Nat} {k : Kid} {q : NK} {es : List (Addr × Int)} {kids : List Kid} (V : VW P cr T news h k q es kids) (h5 : T ≤ 5) (hz : k.sz ≤ 2 * T - 1) : es.length ≤ 9 ∧ kids.length ≤ 10 ∧ es.length ≤ 100 ∧ (vals es).length ≤ 100 ∧ (refs kids).length ≤ 100 := by
  have := V.sz
  have hk : kids.length ≤ es.length + 1 := by
    by_cases e : h = 0
    · rw [V.kl (by simpa using e)]; exact Nat.zero_le _
    · rw [V.kl' (by simpa using e)]; exact Nat.le_refl _
  rw [vals_length, refs_length]
  omega
end
theorem inter_head (s : List Int) (A : List (List Int)) (es : List Int) : ∃ z, inter (s :: A) es = s ++ z := by cases es <;> exact ⟨_, rfl⟩
def MinOk (hh : Nat) : Prop := ∀ {w : World} {f : Fm} {m : PySem.Str → Option Value} {news : List (Addr × Obj)} {h : Heap} {E : Value → Shared → Prop} {g : Array GenState} {d : Drawn} {tk : Nat} {o : OsState} {Q : Value → Shared → Prop} {cr : Addr} {T : Nat} {kid : Kid},
  Cx w f m news h → TreeIn w.params cr T news hh kid → 3 ≤ T → T ≤ 5 → 1 ≤ kid.sz → kid.sz ≤ 2 * T - 1 → f.dp + hh + 2 < 1000 →
  (∀ h' tk' e, Cx w f m news h' → IsE w.params news e → (∃ r, kid.ks = e.2 :: r) → Q (.ref e.1) ⟨h', g, d, tk', o⟩) →
  wpAny (MM w) (AR f) (call (.ref 372) [.ref kid.a]) Q E ⟨h, g, d, tk, o⟩
theorem c_min (hh : Nat) (IH : ∀ c, hh = c + 1 → MinOk c) : MinOk hh := by
  intro w f m news h E g d tk o Q cr T kid C HT h3 h5 h1 hz hd k
  obtain ⟨q, es, kids, V⟩ := HT.view
  have Hn := V.nd
  have zz := V.sizes h5 hz
  have hsz := V.sz
  refine' enter (binds := [("self", .ref kid.a)]) C ?k6 ?k7 ?kd ?k9 ?kB ?_ ?c2 ?c3 ?c4 ?c5
  (case k6 => k_is); (case k7 => k_is); (case kd => omega); (case k9 => exact rfl); (case kB => exact rfl); (case c2 => exact rfl); (case c3 => exact rfl); (case c4 => exact rfl); (case c5 => decide)
  intro h₀' L' h' C'
  clear C
  repeat walk_at "m.s"
  refine ifB_split (fun hlf => ?_) (fun hlf => ?_)
  · have h0 : hh = 0 := by simpa using hlf
    repeat walk_at "m.s"
    walk_at "m.getE"
    intro e he
    repeat walk_at "m.s"
    walk_at "m.end"
    refine fun Cc => k _ _ e Cc (V.el e (List.mem_of_getElem? he)) ?_
    have hk := V.kl hlf
    subst hk
    have hks := V.ks
    rw [show kss [] = [] from rfl, inter_nil] at hks
    cases es with
    | nil => simp at he
    | cons a es =>
      have : e = a := by simpa using he.symm
      subst this
      exact ⟨_, hks⟩
  · have h0 : hh ≠ 0 := by simpa using hlf
    obtain ⟨c, rfl⟩ := Nat.exists_eq_succ_of_ne_zero h0
    have hkl := V.kl' hlf
    cases kids with
    | nil => simp at hkl
    | cons y kids =>
      have hy := V.kz y (by simp)
      have hg : (refs (y :: kids))[(0 : Int).toNat]? = some (.ref y.a) := rfl
      obtain ⟨yq, yes, ykids, yV⟩ := TreeIn.view hy.2.2
      have Hy := yV.nd
      repeat walk_at "m.s"
      walk_at "m.getC"
      repeat walk_at "m.s"
      refine IH c rfl (by walk_at "m.C") hy.2.2 h3 h5 (by omega) (by omega) (by walk_at "m.dp") ?_
      intro h2 tk2 e C2 hE hr
      repeat walk_at "m.s"
      walk_at "m.end"
      refine fun Cc => k _ _ e Cc hE ?_
      obtain ⟨r, hr⟩ := hr
      obtain ⟨z, hz⟩ := inter_head y.ks (kss kids) (keys es)
      exact ⟨r ++ z, by rw [V.ks, kss_cons, hz, hr]; rfl⟩
theorem minOk : ∀ hh, MinOk hh
  | 0 => c_min 0 fun c e => nomatch e
  | h + 1 => c_min (h + 1) fun c e => by cases e; exact minOk h

-- T3
section
/-- es and kids cut at the place of k0 -/
theorem kids_at {kids : List Kid} {ea eb : List (Addr × Int)} (h : kids.length = (ea ++ eb).length + 1) : ∃ ka c kb, kids = ka ++ c :: kb ∧ ka.length = ea.length ∧ kb.length = eb.length := by
  rw [List.length_append] at h
  have hl : ea.length < kids.length := by omega
  refine ⟨kids.take ea.length, kids[ea.length], kids.drop (ea.length + 1), by simp, by rw [List.length_take]; omega, by rw [List.length_drop]; omega⟩
/-- what stands about a child -/
structure Cut (ks : List Int) (L : List Int) (c : List Int) (R : List Int) (k0 : Int) : Prop where
  eq : ks = L ++ (c ++ R)
  l : ∀ x ∈ L, x < k0
  r : ∀ x ∈ R, k0 < x
theorem Cut.mem {ks L c R : List Int} {k0 : Int} (H : Cut ks L c R k0) : k0 ∈ ks ↔ k0 ∈ c := by
  rw [H.eq, List.mem_append, List.mem_append]
  constructor
  · rintro (h | h | h)
    · have := H.l _ h; omega
    · exact h
    · have := H.r _ h; omega
  · exact fun h => .inr (.inl h)
theorem cut_at {ka kb : List Kid} {c : Kid} {ea eb : List (Addr × Int)} {k0 : Int} {ks : List Int} (h : ks = inter (kss (ka ++ c :: kb)) (keys (ea ++ eb))) (hi : Inc ks) (h1 : ka.length = ea.length) (h2 : kb.length = eb.length)
    (hl : ∀ e ∈ ea, e.2 < k0) (hr : ∀ e ∈ eb, k0 < e.2) : Cut ks (inter (kss ka) (keys ea)) c.ks (tailI (kss kb) (keys eb)) k0 := by
  rw [ks_at h1 h2] at h
  subst h
  obtain ⟨a1, a2, a3, _⟩ := hi.parts
  refine ⟨rfl, left_lt (by rw [kss_length, keys_length, h1]) a1 fun e he => ?_, right_lt a3 fun e he => ?_⟩
  · obtain ⟨x, hx, rfl⟩ := List.mem_map.mp he; exact hl x hx
  · obtain ⟨x, hx, rfl⟩ := List.mem_map.mp he; exact hr x hx
theorem refs_at {ka kb : List Kid} {c : Kid} {n : Nat} (h : ka.length = n) : (refs (ka ++ c :: kb))[((n : Nat) : Int).toNat]? = some (.ref c.a) := by
  subst h; rw [refs_append, refs_cons, Int.toNat_natCast]; simp [refs]
theorem vals_at {ea eb : List (Addr × Int)} {e : Addr × Int} : (vals (ea ++ e :: eb))[((ea.length : Nat) : Int).toNat]? = some (.ref e.1) := by
  rw [vals_append, vals_cons, Int.toNat_natCast]; simp [vals]
end
def GetOk (hh : Nat) : Prop := ∀ {w : World} {f : Fm} {m : PySem.Str → Option Value} {news : List (Addr × Obj)} {h : Heap} {E : Value → Shared → Prop} {g : Array GenState} {d : Drawn} {tk : Nat} {o : OsState} {Q : Value → Shared → Prop} {cr : Addr} {T : Nat} {kid : Kid} {kb : Array UInt8} {tb : Tok} {k0 : Int},
  Cx w f m news h → TreeIn w.params cr T news hh kid → Inc kid.ks → Enc kb k0 → 3 ≤ T → T ≤ 5 → kid.sz ≤ 2 * T - 1 → f.dp + hh + 4 < 1000 →
  (k0 ∉ kid.ks → ∀ h' tk', Cx w f m news h' → Q .none ⟨h', g, d, tk', o⟩) →
  (k0 ∈ kid.ks → ∀ h' tk' e, Cx w f m news h' → Q (.ref e) ⟨h', g, d, tk', o⟩) →
  wpAny (MM w) (AR f) (call (.ref 316) [.ref kid.a, .bytes kb tb]) Q E ⟨h, g, d, tk, o⟩
theorem c_get (hh : Nat) (IH : ∀ c, hh = c + 1 → GetOk c) : GetOk hh := by
  intro w f m news h E g d tk o Q cr T kid kb tb k0 C HT hi hk h3 h5 hz hd k0' k1
  obtain ⟨q, es, kids, V⟩ := HT.view
  have Hn := V.nd
  have hE := V.el
  have zz := V.sizes h5 hz
  have hA : Asc es := Inc.keys (V.ks ▸ hi)
  refine' enter (binds := [("self", .ref kid.a), ("key", .bytes kb tb)]) C ?k6 ?k7 ?kd ?k9 ?kB ?_ ?c2 ?c3 ?c4 ?c5
  (case k6 => k_is); (case k7 => k_is); (case kd => omega); (case k9 => exact rfl); (case kB => exact rfl); (case c2 => exact rfl); (case c3 => exact rfl); (case c4 => exact rfl); (case c5 => decide)
  intro h₀' L' h' C'
  clear C
  repeat walk_at "m.s"
  have hF := ‹Found _ _ _ _›
  refine ifB_split (fun hq => ?_) (fun hq => ?_)
  · subst hq
    obtain ⟨ea, e, eb, rfl, rfl, he⟩ := hF.yes
    have hg := vals_at (ea := ea) (eb := eb) (e := e)
    repeat walk_at "m.s"
    walk_at "m.getV"
    repeat walk_at "m.s"
    walk_at "m.end"
    refine fun Cc => k1 ?_ _ _ e.1 (Cc.sub fun _ h => .tail _ h)
    rw [V.ks, ← he]; exact inter_mem (by simp)
  · subst hq
    obtain ⟨ea, eb, rfl, rfl, h1, h2⟩ := hF.no
    repeat walk_at "m.s"
    refine ifB_split (fun hlf => ?_) (fun hlf => ?_)
    · repeat walk_at "m.s"
      walk_at "m.end"
      refine fun Cc => k0' ?_ _ _ (Cc.sub fun _ h => .tail _ h)
      rw [V.ks, V.kl hlf, show kss [] = [] from rfl, inter_nil]
      intro hm
      obtain ⟨x, hx, rfl⟩ := List.mem_map.mp hm
      rcases List.mem_append.mp hx with hx | hx
      · have := h1 x hx; omega
      · have := h2 x hx; omega
    · have h0 : hh ≠ 0 := by simpa using hlf
      obtain ⟨c, rfl⟩ := Nat.exists_eq_succ_of_ne_zero h0
      obtain ⟨ka, y, kb', rfl, l1, l2⟩ := kids_at (V.kl' hlf)
      have hy := V.kz y (by simp)
      have cut := cut_at V.ks hi l1 l2 h1 h2
      obtain ⟨yq, yes, ykids, yV⟩ := TreeIn.view hy.2.2
      have Hy := yV.nd
      have hg := refs_at (kb := kb') (c := y) l1
      have hyi : Inc y.ks := (cut.eq ▸ hi).parts.2.1
      repeat walk_at "m.s"
      walk_at "m.getC"
      repeat walk_at "m.s"
      refine IH c rfl (by walk_at "m.C") (TreeIn.mono hy.2.2 fun _ h => .tail _ h) hyi hk h3 h5 (by omega) (by walk_at "m.dp") ?_ ?_
      · intro hn h2 tk2 C2
        repeat walk_at "m.s"
        walk_at "m.end"
        exact fun Cc => k0' (fun hm => hn (cut.mem.mp hm)) _ _ (Cc.sub fun _ h => .tail _ h)
      · intro hn h2 tk2 e C2
        repeat walk_at "m.s"
        walk_at "m.end"
        exact fun Cc => k1 (cut.mem.mpr hn) _ _ e (Cc.sub fun _ h => .tail _ h)
theorem getOk : ∀ hh, GetOk hh
  | 0 => c_get 0 fun c e => nomatch e
  | h + 1 => c_get (h + 1) fun c e => by cases e; exact getOk h
theorem inter_hole : ∀ (S : List (List Int)) (EA EB : List Int), ∃ X Y, ∀ k, inter S (EA ++ k :: EB) = X ++ k :: Y
  | [], EA, EB => ⟨EA, EB, fun k => inter_nil _⟩
  | s :: S, [], EB => ⟨s, inter S EB, fun k => rfl⟩
  | s :: S, e :: EA, EB => by
    obtain ⟨X, Y, h⟩ := inter_hole S EA EB
    exact ⟨s ++ e :: X, Y, fun k => by show s ++ e :: inter S (EA ++ k :: EB) = _; rw [h]; simp⟩
theorem repI_hole {X Y : List Int} {k s : Int} (h : Inc (X ++ k :: Y)) : repI k s (X ++ k :: Y) = X ++ s :: Y := by
  obtain ⟨a, b, c⟩ := List.pairwise_append.mp h
  have e := repI_mid (L := X) (C := [k]) (R := Y) (k := k) (s := s) (fun x hx => by have := c x hx k (by simp); omega) (fun x hx => by have := (List.pairwise_cons.mp b).1 x hx; omega)
  simpa [repI] using e
/-- a place in a tree: a node with an element there; what the tree is when the element is turned -/
structure Place (P : Params) (cr : Addr) (T : Nat) (news : List (Addr × Obj)) (hh : Nat) (kid : Kid) (k0 : Int) (n : Addr) (q : NK) (lf : Bool) (ea : List (Addr × Int)) (e : Addr × Int) (eb : List (Addr × Int)) (cs : List Value) : Prop where
  nd : NodeIn P news n q lf (vals (ea ++ e :: eb)) cs
  e2 : e.2 = k0
  el : IsE P news e
  ne : q.lc ≠ q.le
  mem : q.le ∈ kid.fp
  z : (ea ++ e :: eb).length ≤ 9
  put : ∀ (e' : Addr × Int) news', NodeIn P news' n q lf (vals (ea ++ e' :: eb)) cs → Ch news [q.le] news' [q.le] → IsE P news' e' → TreeIn P cr T news' hh { kid with ks := repI k0 e'.2 kid.ks }
theorem nd_ne {q : NK} {l : List Addr} (h : (q.fp ++ l).Nodup) : q.lc ≠ q.le := by
  have := (List.nodup_append.mp h).1
  simp only [NK.fp, List.nodup_cons, List.mem_cons, List.not_mem_nil, or_false, not_or] at this
  exact fun z => this.2.1 z.symm
theorem Place.here {P : Params} {cr : Addr} {T : Nat} {news : List (Addr × Obj)} {hh : Nat} {kid : Kid} {k0 : Int} {q : NK} {ea eb : List (Addr × Int)} {e : Addr × Int} {kids : List Kid} (V : VW P cr T news hh kid q (ea ++ e :: eb) kids) (he : e.2 = k0) (hi : Inc kid.ks) (hn : kid.fp.Nodup) (hz : (ea ++ e :: eb).length ≤ 9) :
    Place P cr T news hh kid k0 kid.a q (decide (hh = 0)) ea e eb (refs kids) := by
  refine ⟨V.nd, he, V.el e (by simp), nd_ne (V.fp ▸ hn), V.fp ▸ by simp, hz, fun e' news' H c hE => View.tree ⟨H, V.cr, V.t, ?_, ?_, ?_, V.fp, V.kl, fun h => (V.kl' h).trans (by simp), fun x hx => ⟨(V.kz x hx).1, (V.kz x hx).2.1, (V.kz x hx).2.2.ch c ?_⟩⟩⟩
  · intro x hx
    rcases List.mem_append.mp hx with hx | hx
    · exact (V.el x (by simp [hx])).ch c
    · rcases List.mem_cons.mp hx with rfl | hx
      · exact hE
      · exact (V.el x (by simp [hx])).ch c
  · rw [V.sz]; simp
  · show repI k0 e'.2 kid.ks = _
    have h1 := V.ks
    rw [keys_append, keys_cons] at h1 ⊢
    obtain ⟨X, Y, h⟩ := inter_hole (kss kids) (keys ea) (keys eb)
    rw [h, he] at h1
    rw [h, h1]
    exact repI_hole (h1 ▸ hi)
  · intro b hb h
    rw [List.mem_singleton.mp h] at hb
    have := V.fp ▸ hn
    have := (List.nodup_append.mp this).2.2 q.le (by simp) q.le (List.mem_flatMap.mpr ⟨x, hx, hb⟩)
    exact this rfl
theorem sub_nodup {q : NK} {ka kb : List Kid} {c : Kid} {l : List Addr} (e : l = q.fp ++ fps (ka ++ c :: kb)) (h : l.Nodup) : c.fp.Nodup ∧ (∀ b ∈ c.fp, b ∉ q.fp) ∧ (∀ x, x ∈ ka ∨ x ∈ kb → ∀ b ∈ x.fp, b ∉ c.fp) ∧ q.fp.Nodup ∧ (fps ka ++ fps kb).Nodup := by
  subst e
  rw [fps_append, fps_cons] at h
  have m : ∀ x, x ∈ ka ∨ x ∈ kb → ∀ b ∈ x.fp, b ∈ fps ka ∨ b ∈ fps kb := fun x hx b hb => hx.imp (fun h => List.mem_flatMap.mpr ⟨x, h, hb⟩) (fun h => List.mem_flatMap.mpr ⟨x, h, hb⟩)
  generalize q.fp = A at *
  generalize fps ka = B at *
  generalize fps kb = D at *
  refine ⟨by grind, by grind, fun x hx b hb => ?_, by grind, by grind⟩
  rcases m x hx b hb with h' | h' <;> grind
theorem Place.below {P : Params} {cr : Addr} {T : Nat} {news : List (Addr × Obj)} {hh : Nat} {kid c : Kid} {k0 : Int} {q qn : NK} {ea eb xa xb : List (Addr × Int)} {e : Addr × Int} {ka kb : List Kid} {n : Addr} {lf : Bool} {cs : List Value} (V : VW P cr T news (hh + 1) kid q (ea ++ eb) (ka ++ c :: kb)) (l1 : ka.length = ea.length) (l2 : kb.length = eb.length)
    (cut : Cut kid.ks (inter (kss ka) (keys ea)) c.ks (tailI (kss kb) (keys eb)) k0) (hn : kid.fp.Nodup) (H : Place P cr T news hh c k0 n qn lf xa e xb cs) : Place P cr T news (hh + 1) kid k0 n qn lf xa e xb cs := by
  obtain ⟨n1, n2, n3, n4, n5⟩ := sub_nodup V.fp hn
  have hq : qn.le ∉ q.fp := n2 _ H.mem
  refine ⟨H.nd, H.e2, H.el, H.ne, V.fp ▸ by rw [fps_append, fps_cons]; simp [H.mem], H.z, fun e' news' HN ch hE => View.tree (q := q) (es := ea ++ eb) (kids := ka ++ { c with ks := repI k0 e'.2 c.ks } :: kb) ⟨?_, V.cr, V.t, fun x hx => (V.el x hx).ch ch, V.sz, ?_, ?_, fun h => by simp at h, fun h => by have := V.kl' h; simp at this ⊢; exact this, fun x hx => ?_⟩⟩
  · have := V.nd.ch ch (fun h => hq (List.mem_singleton.mp h ▸ by simp)) (fun h => hq (List.mem_singleton.mp h ▸ by simp)) (fun h => hq (List.mem_singleton.mp h ▸ by simp))
    rw [refs_append, refs_cons] at this ⊢
    exact this
  · show repI k0 e'.2 kid.ks = _
    rw [ks_at l1 l2, cut.eq, repI_mid (fun x hx => by have := cut.l x hx; omega) (fun x hx => by have := cut.r x hx; omega)]
  · rw [V.fp, fps_append, fps_append, fps_cons, fps_cons]
  · rcases List.mem_append.mp hx with hx | hx
    · have := V.kz x (by simp [hx])
      exact ⟨this.1, this.2.1, this.2.2.ch ch fun b hb h => n3 x (.inl hx) b hb (List.mem_singleton.mp h ▸ H.mem)⟩
    · rcases List.mem_cons.mp hx with rfl | hx
      · have := V.kz c (by simp)
        exact ⟨this.1, this.2.1, H.put e' news' HN ch hE⟩
      · have := V.kz x (by simp [hx])
        exact ⟨this.1, this.2.1, this.2.2.ch ch fun b hb h => n3 x (.inr hx) b hb (List.mem_singleton.mp h ▸ H.mem)⟩
def NodeOk (hh : Nat) : Prop := ∀ {w : World} {f : Fm} {m : PySem.Str → Option Value} {news : List (Addr × Obj)} {h : Heap} {E : Value → Shared → Prop} {g : Array GenState} {d : Drawn} {tk : Nat} {o : OsState} {Q : Value → Shared → Prop} {cr : Addr} {T : Nat} {kid : Kid} {kb : Array UInt8} {tb : Tok} {k0 : Int},
  Cx w f m news h → TreeIn w.params cr T news hh kid → Inc kid.ks → kid.fp.Nodup → Enc kb k0 → 3 ≤ T → T ≤ 5 → kid.sz ≤ 2 * T - 1 → f.dp + hh + 4 < 1000 → k0 ∈ kid.ks →
  (∀ h' tk' news' D n q lf ea e eb cs u, Cx w f m news' h' → (∀ p ∈ news, p ∈ news') → (D, tupOf [.ref n, .int (ea.length : Nat) u]) ∈ news' → Place w.params cr T news' hh kid k0 n q lf ea e eb cs → Q (.ref D) ⟨h', g, d, tk', o⟩) →
  wpAny (MM w) (AR f) (call (.ref 309) [.ref kid.a, .bytes kb tb]) Q E ⟨h, g, d, tk, o⟩
theorem c_get_node (hh : Nat) (IH : ∀ c, hh = c + 1 → NodeOk c) : NodeOk hh := by
  intro w f m news h E g d tk o Q cr T kid kb tb k0 C HT hi hn hk h3 h5 hz hd hm k
  obtain ⟨q, es, kids, V⟩ := HT.view
  have Hn := V.nd
  have hE := V.el
  have zz := V.sizes h5 hz
  have hA : Asc es := Inc.keys (V.ks ▸ hi)
  refine' enter (binds := [("self", .ref kid.a), ("key", .bytes kb tb)]) C ?k6 ?k7 ?kd ?k9 ?kB ?_ ?c2 ?c3 ?c4 ?c5
  (case k6 => k_is); (case k7 => k_is); (case kd => omega); (case k9 => exact rfl); (case kB => exact rfl); (case c2 => exact rfl); (case c3 => exact rfl); (case c4 => exact rfl); (case c5 => decide)
  intro h₀' L' h' C'
  clear C
  repeat walk_at "m.s"
  have hF := ‹Found _ _ _ _›
  refine ifB_split (fun hq => ?_) (fun hq => ?_)
  · subst hq
    obtain ⟨ea, e, eb, rfl, rfl, he⟩ := hF.yes
    repeat walk_at "m.s"
    walk_at "m.end"
    refine fun Cc => k _ _ _ _ kid.a q (decide (hh = 0)) ea e eb (refs kids) _ Cc (fun _ h => .tail _ (.tail _ h)) List.mem_cons_self (Place.here (View.mono V fun _ h => .tail _ (.tail _ h)) he hi hn zz.1)
  · subst hq
    obtain ⟨ea, eb, rfl, rfl, h1, h2⟩ := hF.no
    repeat walk_at "m.s"
    refine ifB_split (fun hlf => ?_) (fun hlf => ?_)
    · exfalso
      rw [V.ks, V.kl hlf, show kss [] = [] from rfl, inter_nil] at hm
      obtain ⟨x, hx, rfl⟩ := List.mem_map.mp hm
      rcases List.mem_append.mp hx with hx | hx
      · have := h1 x hx; omega
      · have := h2 x hx; omega
    · have h0 : hh ≠ 0 := by simpa using hlf
      obtain ⟨c, rfl⟩ := Nat.exists_eq_succ_of_ne_zero h0
      obtain ⟨ka, y, kb', rfl, l1, l2⟩ := kids_at (V.kl' hlf)
      have hy := V.kz y (by simp)
      have cut := cut_at V.ks hi l1 l2 h1 h2
      obtain ⟨yq, yes, ykids, yV⟩ := TreeIn.view hy.2.2
      have Hy := yV.nd
      have hg := refs_at (kb := kb') (c := y) l1
      have hyi : Inc y.ks := (cut.eq ▸ hi).parts.2.1
      have hcr : yq.cr = q.cr := yV.cr.trans V.cr.symm
      have Hf : NodeIn w.params news kid.a q false (vals (ea ++ eb)) (refs (ka ++ y :: kb')) := Hn
      clear Hn
      repeat walk_at "m.s"
      refine IH c rfl (by walk_at "m.C") (TreeIn.mono hy.2.2 fun _ h => .tail _ h) hyi (sub_nodup V.fp hn).1 hk h3 h5 (by omega) (by walk_at "m.dp") (cut.mem.mp hm) ?_
      intro h2 tk2 news2 D n qn lf xa e xb cs u C2 sb hD HP
      repeat walk_at "m.s"
      walk_at "m.end"
      exact fun Cc => k _ _ _ _ n qn lf xa e xb cs u Cc (fun _ h => sb _ (.tail _ h)) hD (HP.below (View.mono V fun _ h => sb _ (.tail _ h)) l1 l2 cut hn)
theorem nodeOk : ∀ hh, NodeOk hh
  | 0 => c_get_node 0 fun c e => nomatch e
  | h + 1 => c_get_node (h + 1) fun c e => by cases e; exact nodeOk h

-- T4
section
variable {w : World} {f : Fm} {m : PySem.Str → Option Value} {news : List (Addr × Obj)} {h : Heap} {E : Value → Shared → Prop}
  {g : Array GenState} {d : Drawn} {tk : Nat} {o : OsState} {Q : Value → Shared → Prop}
variable {cr : Addr} {T : Nat} {c kid : Kid} {hh : Nat}
theorem Sub.has {P : Params} {cr : Addr} {T : Nat} {news : List (Addr × Obj)} {h : Nat} {k : Kid} (H : Sub P cr T news h k) : ∀ b ∈ k.fp, ∃ x, (b, x) ∈ news := by
  cases h with
  | zero => exact H.elim
  | succ h => exact TreeIn.has H
theorem View.fpsHas {P : Params} {cr : Addr} {T : Nat} {news : List (Addr × Obj)} {h : Nat} {k : Kid} {q : NK} {es : List (Addr × Int)} {kids : List Kid} (V : VW P cr T news h k q es kids) : ∀ b ∈ fps kids, ∃ x, (b, x) ∈ news := by
  intro b hb
  obtain ⟨c, hc, hb⟩ := List.mem_flatMap.mp hb
  exact (V.kz c hc).2.2.has b hb
theorem sub_nodup' {q : NK} {kids : List Kid} {l : List Addr} (e : l = q.fp ++ fps kids) (h : l.Nodup) : q.fp.Nodup ∧ (fps kids).Nodup ∧ (∀ b ∈ q.fp, b ∉ fps kids) := by
  subst e
  obtain ⟨a, b, c⟩ := List.nodup_append.mp h
  exact ⟨a, b, fun x hx hy => c x hx x hy rfl⟩
theorem nd4 {a1 a2 a3 a4 : List Addr} (h1 : (a1 ++ a2).Nodup) (h2 : (a3 ++ a4).Nodup) (h3 : ∀ b ∈ a1 ++ a2, b ∉ a3 ++ a4) : ((a1 ++ a3) ++ (a2 ++ a4)).Nodup := by
  simp only [List.nodup_append, List.mem_append] at *
  obtain ⟨x1, x2, x3⟩ := h1
  obtain ⟨y1, y2, y3⟩ := h2
  refine ⟨⟨x1, y1, fun a ha b hb e => h3 a (.inl ha) (.inl (e ▸ hb))⟩, ⟨x2, y2, fun a ha b hb e => h3 a (.inr ha) (.inr (e ▸ hb))⟩, ?_⟩
  rintro a (ha | ha) b (hb | hb) e
  · exact x3 a ha b hb e
  · exact h3 a (.inl ha) (.inr (e ▸ hb))
  · exact h3 b (.inr hb) (.inl (e ▸ ha))
  · exact y3 a ha b hb e
theorem c_tsplit (C : Cx w f m news h) (HT : TreeIn w.params cr T news hh c) (hi : Inc c.ks) (hn : c.fp.Nodup) (h3 : 3 ≤ T) (h5 : T ≤ 5) (hz : c.sz = 2 * T - 1) (hd : f.dp + 4 < 1000)
    (k : ∀ h' tk' news' l r md D, Cx w f m news' h' → TreeIn w.params cr T news' hh l → TreeIn w.params cr T news' hh r → IsE w.params news' md → l.a = c.a → l.sz = T - 1 → r.sz = T - 1 → c.ks = l.ks ++ md.2 :: r.ks → (D, tupOf [.ref l.a, .ref md.1, .ref r.a]) ∈ news' →
      Ch news c.fp news' (l.fp ++ r.fp) → (l.fp ++ r.fp).Nodup → Q (.ref D) ⟨h', g, d, tk', o⟩) :
    wpAny (MM w) (AR f) (call (.ref 337) [.ref c.a]) Q E ⟨h, g, d, tk, o⟩ := by
  obtain ⟨q, es, kids, V⟩ := HT.view
  have hsz := V.sz
  have hlt : T - 1 < es.length := by omega
  obtain ⟨n1, n2, n3⟩ := sub_nodup' V.fp hn
  have hfh := V.fpsHas
  have hkl : decide (hh = 0) = false → (refs kids).length = 2 * T := fun h => by rw [refs_length, V.kl' h]; omega
  refine c_split C V.nd V.t h3 h5 (by rw [vals_length]; omega) (fun h => by rw [V.kl h]; rfl) hkl n1 (v := .ref es[T - 1].1) (vals_get (List.getElem?_eq_getElem hlt)) hd ?_
  intro h2 tk2 news2 x q2 qr D C2 H1 H2 hD r1 r2 r3 r4 ch nd fx
  have ev : es = es.take (T - 1) ++ es[T - 1] :: es.drop T := by
    have := List.take_append_drop (T - 1) es
    rw [List.drop_eq_getElem_cons hlt, show T - 1 + 1 = T by omega] at this
    exact this.symm
  have ek : fps kids = fps (kids.take T) ++ fps (kids.drop T) := by rw [← fps_append, List.take_append_drop]
  rw [show (vals es).take (T - 1) = vals (es.take (T - 1)) from List.map_take.symm, show (refs kids).take T = refs (kids.take T) from List.map_take.symm] at H1
  rw [show (vals es).drop T = vals (es.drop T) from List.map_drop.symm, show (refs kids).drop T = refs (kids.drop T) from List.map_drop.symm] at H2
  have dj := ch.disj n3 hfh
  have kq : ∀ y ∈ kids, ∀ b ∈ y.fp, b ∉ q.fp := fun y hy b hb h => n3 b h (List.mem_flatMap.mpr ⟨y, hy, hb⟩)
  refine k h2 tk2 news2 ⟨c.a, inter (kss (kids.take T)) (keys (es.take (T - 1))), q2.fp ++ fps (kids.take T), T - 1⟩ ⟨x, inter (kss (kids.drop T)) (keys (es.drop T)), qr.fp ++ fps (kids.drop T), T - 1⟩ es[T - 1] D C2
    (View.tree (q := q2) (es := es.take (T - 1)) (kids := kids.take T) ⟨H1, r1.trans V.cr, r2, fun e he => (V.el e (List.mem_of_mem_take he)).ch ch, by rw [List.length_take]; show T - 1 = _; omega, rfl, rfl, fun h => by rw [V.kl h]; exact List.take_nil, fun h => by rw [List.length_take, List.length_take, V.kl' h]; omega, fun y hy => ?_⟩)
    (View.tree (q := qr) (es := es.drop T) (kids := kids.drop T) ⟨H2, r3.trans V.cr, r4, fun e he => (V.el e (List.mem_of_mem_drop he)).ch ch, by rw [List.length_drop]; show T - 1 = _; omega, rfl, rfl, fun h => by rw [V.kl h]; exact List.drop_nil, fun h => by rw [List.length_drop, List.length_drop, V.kl' h]; omega, fun y hy => ?_⟩)
    ((V.el _ (List.getElem_mem hlt)).ch ch) rfl rfl rfl ?_ hD (ch.weak (fun b hb => V.fp ▸ List.mem_append_left _ hb) ?_) ?_
  · have hy := List.mem_of_mem_take hy
    exact ⟨(V.kz y hy).1, (V.kz y hy).2.1, (V.kz y hy).2.2.ch ch (kq y hy)⟩
  · have hy := List.mem_of_mem_drop hy
    exact ⟨(V.kz y hy).1, (V.kz y hy).2.1, (V.kz y hy).2.2.ch ch (kq y hy)⟩
  · rw [V.ks]
    by_cases h0 : hh = 0
    · have hk := V.kl (by simpa using h0)
      subst hk
      show inter [] _ = inter (kss (List.take T [])) _ ++ _ :: inter (kss (List.drop T [])) _
      rw [List.take_nil, List.drop_nil, show kss [] = [] from rfl, inter_nil, inter_nil, inter_nil]
      conv => lhs; rw [ev]
      rw [keys_append, keys_cons]
    · have hk := V.kl' (by simpa using h0)
      conv => lhs; rw [ev, ← List.take_append_drop T kids]
      rw [kss_append, keys_append, keys_cons, inter_join _ _ _ _ _ (by rw [kss_length, keys_length, List.length_take, List.length_take]; omega)]
  · intro b hb
    rw [V.fp, ek]
    simp only [List.mem_append] at hb ⊢
    rcases hb with (h | h) | (h | h)
    · exact .inl (.inl h)
    · exact .inr (.inr (.inl h))
    · exact .inl (.inr h)
    · exact .inr (.inr (.inr h))
  · rw [ek] at n2 dj
    exact nd4 nd n2 dj
end

-- T5
section
variable {P : Params} {cr : Addr} {T : Nat} {news n1 n2 n3 : List (Addr × Obj)} {hh : Nat} {kid c : Kid} {q q' : NK} {es ea eb : List (Addr × Int)} {kids ka kb cc : List Kid} {X : List Addr}
theorem nd_swap {a k c r X : List Addr} (h : (a ++ (k ++ (c ++ r))).Nodup) (hX : X.Nodup) (dj : ∀ b ∈ X, b ∉ a ++ (k ++ r)) : (a ++ (k ++ (X ++ r))).Nodup := by
  simp only [List.nodup_append, List.mem_append] at *
  obtain ⟨h1, ⟨h2, ⟨h3, h4, h5⟩, h6⟩, h7⟩ := h
  refine ⟨h1, ⟨h2, ⟨hX, h4, fun x hx y hy e => dj x hx (.inr (.inr (e ▸ hy)))⟩, ?_⟩, ?_⟩
  · rintro x hx y (hy | hy) e
    · exact dj y hy (.inr (.inl (e ▸ hx)))
    · exact h6 x hx y (.inr hy) e
  · rintro x hx y (hy | hy | hy) e
    · exact h7 x hx y (.inl hy) e
    · exact dj y hy (.inl (e ▸ hx))
    · exact h7 x hx y (.inr (.inr hy)) e
theorem View.cells (V : VW P cr T news hh kid q es kids) : ∀ b ∈ q.fp, ∃ x, (b, x) ∈ news := fun b hb => by obtain ⟨x, hx, _⟩ := V.nd.cells b hb; exact ⟨x, hx⟩
theorem View.swap (V : VW P cr T n1 hh kid q es (ka ++ c :: kb)) (hn : kid.fp.Nodup) (ch : Ch n1 c.fp n2 X) (hX : X.Nodup) :
    (q.fp ++ (fps ka ++ (X ++ fps kb))).Nodup ∧ Ch n1 kid.fp n2 (q.fp ++ (fps ka ++ (X ++ fps kb))) ∧ (∀ b ∈ X, b ∉ q.fp ++ (fps ka ++ fps kb)) := by
  have e : kid.fp = q.fp ++ (fps ka ++ (c.fp ++ fps kb)) := by rw [V.fp, fps_append, fps_cons]
  have hf := V.fpsHas
  rw [fps_append, fps_cons] at hf
  have h1 := e ▸ hn
  have dj : ∀ b ∈ X, b ∉ q.fp ++ (fps ka ++ fps kb) := by
    refine ch.disj (fun b hb => ?_) fun b hb => ?_
    · simp only [List.nodup_append, List.mem_append] at *
      obtain ⟨h1, ⟨h2, ⟨h3, h4, h5⟩, h6⟩, h7⟩ := h1
      rintro (h | h | h)
      · exact h7 b h b (.inr (.inl hb)) rfl
      · exact h6 b h b (.inl hb) rfl
      · exact h5 b hb b h rfl
    · simp only [List.mem_append] at hb hf
      rcases hb with h | h | h
      · exact V.cells b h
      · exact hf b (.inl h)
      · exact hf b (.inr (.inr h))
  refine ⟨nd_swap h1 hX dj, ?_, dj⟩
  rw [e]
  refine ch.weak (fun b hb => by simp [hb]) fun b hb => ?_
  simp only [List.mem_append] at hb ⊢
  rcases hb with h | h | h | h
  · exact .inr (.inl h)
  · exact .inr (.inr (.inl h))
  · exact .inl h
  · exact .inr (.inr (.inr (.inr h)))
theorem View.oth (V : VW P cr T n1 hh kid q es (ka ++ c :: kb)) (hn : kid.fp.Nodup) (ch : Ch n1 c.fp n2 X) : NodeIn P n2 kid.a q (decide (hh = 0)) (vals es) (refs (ka ++ c :: kb)) ∧ (∀ e ∈ es, IsE P n2 e) ∧ ∀ x, x ∈ ka ∨ x ∈ kb → T - 1 ≤ x.sz ∧ x.sz ≤ 2 * T - 1 ∧ Sub P cr T n2 hh x := by
  obtain ⟨m1, m2, m3, m4, m5⟩ := sub_nodup V.fp hn
  have hq : ∀ b ∈ q.fp, b ∉ c.fp := fun b hb h => m2 b h hb
  refine ⟨V.nd.ch ch (hq _ (by simp)) (hq _ (by simp)) (hq _ (by simp)), fun e he => (V.el e he).ch ch, fun x hx => ?_⟩
  have := V.kz x (by simp; exact hx.imp id .inr)
  exact ⟨this.1, this.2.1, this.2.2.ch ch (m3 x hx)⟩
/-- a child turned -/
theorem View.turn {c' : Kid} (V : VW P cr T n1 (hh + 1) kid q es (ka ++ c :: kb)) (hn : kid.fp.Nodup) (ch : Ch n1 c.fp n2 c'.fp) (hX : c'.fp.Nodup) (ha : c'.a = c.a) (hc : TreeIn P cr T n2 hh c') (z1 : T - 1 ≤ c'.sz) (z2 : c'.sz ≤ 2 * T - 1) :
    ∃ fp', fp'.Nodup ∧ Ch n1 kid.fp n2 fp' ∧ VW P cr T n2 (hh + 1) ⟨kid.a, inter (kss (ka ++ c' :: kb)) (keys es), fp', kid.sz⟩ q es (ka ++ c' :: kb) := by
  obtain ⟨w1, w2, w3⟩ := V.swap hn ch hX
  obtain ⟨o1, o2, o3⟩ := V.oth hn ch
  refine ⟨_, w1, w2, ⟨?_, V.cr, V.t, o2, V.sz, rfl, by rw [fps_append, fps_cons], fun h => by simp at h, fun h => by have := V.kl' h; simp at this ⊢; exact this, fun x hx => ?_⟩⟩
  · rw [refs_append, refs_cons] at o1 ⊢
    rw [ha]; exact o1
  · rcases List.mem_append.mp hx with hx | hx
    · exact o3 x (.inl hx)
    · rcases List.mem_cons.mp hx with rfl | hx
      · exact ⟨z1, z2, hc⟩
      · exact o3 x (.inr hx)
/-- a child split and its half adopted -/
theorem View.adopt {l r : Kid} {md : Addr × Int} (V : VW P cr T n1 (hh + 1) kid q (ea ++ eb) (ka ++ c :: kb)) (h1 : ka.length = ea.length) (h2 : kb.length = eb.length) (hn : kid.fp.Nodup) (ch : Ch n1 c.fp n2 (l.fp ++ r.fp)) (hX : (l.fp ++ r.fp).Nodup) (ha : l.a = c.a) (hl : TreeIn P cr T n2 hh l) (hr : TreeIn P cr T n2 hh r)
    (z1 : l.sz = T - 1) (z2 : r.sz = T - 1) (hM : IsE P n2 md) (hks : c.ks = l.ks ++ md.2 :: r.ks) (sm : Sm q q') (H : NodeIn P n3 kid.a q' false (vals (ea ++ md :: eb)) (refs ka ++ .ref l.a :: .ref r.a :: refs kb)) (ch2 : Ch n2 q.fp n3 q.fp) :
    ∃ fp', fp'.Nodup ∧ Ch n1 kid.fp n3 fp' ∧ VW P cr T n3 (hh + 1) ⟨kid.a, kid.ks, fp', kid.sz + 1⟩ q' (ea ++ md :: eb) (ka ++ l :: r :: kb) := by
  obtain ⟨w1, w2, w3⟩ := V.swap hn ch hX
  obtain ⟨o1, o2, o3⟩ := V.oth hn ch
  have far : ∀ b, b ∈ fps ka ∨ b ∈ l.fp ++ r.fp ∨ b ∈ fps kb → b ∉ q.fp := by
    intro b hb hq
    simp only [List.nodup_append, List.mem_append] at w1 hb
    exact w1.2.2 b hq b hb rfl
  refine ⟨_, w1, w2.step ch2 (fun b hb => List.mem_append_left _ hb), ⟨?_, sm.cr.trans V.cr, sm.t.trans V.t, fun x hx => ?_, ?_, ?_, ?_, fun h => by simp at h, fun h => by have := V.kl' h; simp at this ⊢; omega, fun x hx => ?_⟩⟩
  · rw [refs_append, refs_cons, refs_cons]; exact H
  · rcases List.mem_append.mp hx with hx | hx
    · exact (o2 x (List.mem_append_left _ hx)).ch ch2
    · rcases List.mem_cons.mp hx with rfl | hx
      · exact hM.ch ch2
      · exact (o2 x (List.mem_append_right _ hx)).ch ch2
  · have := V.sz
    simp only [List.length_append, List.length_cons] at this ⊢; omega
  · show kid.ks = _
    rw [V.ks, ks_at h1 h2, kss_append, kss_cons, kss_cons, keys_append, keys_cons, inter_split _ _ _ _ (by rw [kss_length, keys_length, h1]), hks]
    show _ = _ ++ (l.ks ++ md.2 :: inter (r.ks :: kss kb) (keys eb))
    rw [inter_cons _ _ _ (by rw [kss_length, keys_length, h2])]
    simp
  · show _ = q'.fp ++ _
    rw [sm.fp, fps_append, fps_cons, fps_cons, List.append_assoc]
  · have k1 : ∀ y, y ∈ ka → ∀ b ∈ y.fp, b ∉ q.fp := fun y hy b hb => far b (.inl (List.mem_flatMap.mpr ⟨y, hy, hb⟩))
    have k2 : ∀ y, y ∈ kb → ∀ b ∈ y.fp, b ∉ q.fp := fun y hy b hb => far b (.inr (.inr (List.mem_flatMap.mpr ⟨y, hy, hb⟩)))
    rcases List.mem_append.mp hx with hx | hx
    · have := o3 x (.inl hx)
      exact ⟨this.1, this.2.1, this.2.2.ch ch2 (k1 x hx)⟩
    · rcases List.mem_cons.mp hx with rfl | hx
      · exact ⟨by omega, by omega, TreeIn.ch ch2 hl fun b hb => far b (.inr (.inl (List.mem_append_left _ hb)))⟩
      · rcases List.mem_cons.mp hx with rfl | hx
        · exact ⟨by omega, by omega, TreeIn.ch ch2 hr fun b hb => far b (.inr (.inl (List.mem_append_right _ hb)))⟩
        · have := o3 x (.inr hx)
          exact ⟨this.1, this.2.1, this.2.2.ch ch2 (k2 x hx)⟩
end

-- T6
section
variable {w : World} {f : Fm} {m : PySem.Str → Option Value} {news : List (Addr × Obj)} {h : Heap} {E : Value → Shared → Prop}
  {g : Array GenState} {d : Drawn} {tk : Nat} {o : OsState} {Q : Value → Shared → Prop}
variable {A : Around} {M : Model}
theorem Cx.top {x : Addr × Obj} (_ : Cx w f m (x :: news) h) : ∀ p ∈ news, p ∈ x :: news := fun _ hp => .tail _ hp
theorem s_cws {env : Env} {pos p : Pos} {fv : Value} {e : Expr} {first : List Value} {s : Shared} (C : Cx w f m news h) (hk : keepIn (Mine.hd.heap_39 w.params) fv = true)
    (k : wpAny M A (eval e env) (fun v s₁ => StarOf M A E v (fun vs s₂ => (Mine.hd.heap_39 w.params).In s₂.heap ∧ wpAny M A (call fv (first ++ vs)) Q E s₂) s₁) E s) : wpAny M A (callWith pos fv first (backTo pos (starEach [.Starred e p] env)) []) Q E s := callWith_S C.X hk k
theorem s_star {T : Addr} {vs : List Value} {QL : List Value → Shared → Prop} (C : Cx w f m news h) (hm : (T, tupOf vs) ∈ news) (hz : vs.length ≤ 1000) (k : ∀ h', Cx w f m news h' → QL vs ⟨h', g, d, tk, o⟩) : StarOf (MM w) A E (.ref T) QL ⟨h, g, d, tk, o⟩ :=
  star_seq (its := vs.toArray) C.F C.N hm rfl rfl (.inr rfl) rfl (by rw [List.size_toArray]; exact size_line hz) fun h' F' N' => k h' (C.to F' N')
theorem s_mcs {env : Env} {ob e : Expr} {name : PySem.Str} {apos pos p : Pos} {s : Shared} (k : wpAny M A (eval ob env) (fun ov s₁ => wpAny M A (getAttr ov name true) (fun fv s₂ => wpAny M A (callWith pos fv [] (backTo pos (starEach [.Starred e p] env)) []) Q E s₂) E s₁) E s)
    (he : eval (.Call (.Attribute ob name apos) [.Starred e p] [] pos) env = (do
      let ov ← eval ob env
      standAt apos.atName
      let fv ← holding [ov] (do pure (← getAttr ov name true, ([] : List Value)))
      callWith pos fv.1 fv.2 (backTo pos (starEach [.Starred e p] env)) [])) :
    wpAny M A (eval (.Call (.Attribute ob name apos) [.Starred e p] [] pos) env) Q E s := by
  rw [he]
  refine wpAny_bind (wpAny_mono k (fun ov s₁ h₁ => wpAny_bind (wpAny_standAt (wpAny_bind (wpAny_holding (wpAny_bind (wpAny_mono h₁ (fun fx s₂ h₂ => wpAny_pure ?_) fun _ _ x => x)))))) fun _ _ x => x)
  exact h₂
theorem nb_adopt {n : Addr} {q : NK} {lf : Bool} {vs cs : List Value} (C : Cx w f m news h) (H : NodeIn w.params news n q lf vs cs) (k : ∀ b h', Cx w f m ((b, methodObj (.ref 358) (.ref n)) :: news) h' → (∀ p ∈ news, p.1 < b) → Q (.ref b) ⟨h', g, d, tk + 1, o⟩) : wpAny (MM w) A (getAttr (.ref n) "adopt" true) Q E ⟨h, g, d, tk, o⟩ := by
  have X := C.X
  refine kbm_bound C.F X C.N (InstAt.of_news C.N H.i H.d) (by k_is) (by k_is) (by k_is) (by k_is) (by k_is) (by k_is) (by decide +kernel) (by k_get) fun b h' F' N' l => k b h' (C.to F' N') l
theorem s_cwbs {env : Env} {pos p : Pos} {b fa : Addr} {self : Value} {e : Expr} {first : List Value} {s : Shared} (_C : Cx w f m news h) (_m : (b, methodObj (.ref fa) self) ∈ news) (hk : fnIn (Mine.hd.heap_39 w.params) fa = true)
    (k : wpAny (MM w) A (eval e env) (fun v s₁ => StarOf (MM w) A E v (fun vs s₂ => MethP (Mine.hd.heap_39 w.params) b fa self s₂.heap ∧ codeAny (MM w) A (.call (.ref fa) ⟨self :: (first ++ vs), []⟩) (RB Q E) s₂) s₁) E s) :
    wpAny (MM w) A (callWith pos (.ref b) first (backTo pos (starEach [.Starred e p] env)) []) Q E s := by
  refine ks_call (P := MethP (Mine.hd.heap_39 w.params) b fa self) rfl (keeps_M hk) (ks_lone (wpAny_mono k (fun v s₁ z => ?_) fun _ _ x => x))
  unfold StarOf at z ⊢
  refine wpAny_mono z (fun b' s₂ y => ⟨y.1, wpAny_mono y.2 (fun vs s₃ x => ⟨x.1, wpAny_call (method_call x.1.1 x.2)⟩) fun _ _ x => x⟩) fun _ _ x => x
end
local macro_rules | `(tactic| walk_at "m.eval") => `(tactic| ((with_reducible refine' s_mcs ?_ ?he); (case he => exact rfl)))
local macro_rules | `(tactic| walk_at "m.attr") => `(tactic| ((with_reducible refine nb_adopt (by walk_at "m.C") (by walk_at "m.nd") ?_); intro _ _ _ _))
local macro_rules | `(tactic| walk_at "m.cw") => `(tactic| first | ((with_reducible show wpAny _ _ (callWith _ _ _ (backTo _ (starEach [Expr.Starred _ _] _)) []) _ _ _); (with_reducible refine' s_cwbs ?C ?m ?k ?_); (case C => walk_at "m.C"); (case m => walk_at "m.mem"); (case k => k_is)))
local macro_rules | `(tactic| walk_at "m.cw") => `(tactic| ((with_reducible refine' s_cws ?C ?k ?_); (case C => walk_at "m.C"); (case k => k_is)))
local macro_rules | `(tactic| walk_at "m.s") => `(tactic| ((with_reducible refine' s_star ?C ?m ?z ?_); (case C => walk_at "m.C"); (case m => walk_at "m.mem"); (case z => exact Nat.le_of_ble_eq_true rfl); intro _ _))
def InsOk (hh : Nat) : Prop := ∀ {w : World} {f : Fm} {m : PySem.Str → Option Value} {news : List (Addr × Obj)} {h : Heap} {E : Value → Shared → Prop} {g : Array GenState} {d : Drawn} {tk : Nat} {o : OsState} {Q : Value → Shared → Prop} {cr : Addr} {T : Nat} {kid : Kid} {e0 : Addr × Int},
  Cx w f m news h → TreeIn w.params cr T news hh kid → Inc kid.ks → kid.fp.Nodup → IsE w.params news e0 → 3 ≤ T → T ≤ 5 → kid.sz < 2 * T - 1 → f.dp + hh + 8 < 1000 →
  (∀ h' tk' news' kid' v, Cx w f m news' h' → TreeIn w.params cr T news' hh kid' → kid'.a = kid.a → kid'.ks = insI e0.2 kid.ks → kid.sz ≤ kid'.sz → kid'.sz ≤ 2 * T - 1 → Ch news kid.fp news' kid'.fp → kid'.fp.Nodup →
    (e0.2 ∈ kid.ks → ∃ r, v = .ref r) → (e0.2 ∉ kid.ks → v = .none) → Q v ⟨h', g, d, tk', o⟩) →
  wpAny (MM w) (AR f) (call (.ref 330) [.ref kid.a, .ref e0.1, .bool false]) Q E ⟨h, g, d, tk, o⟩
theorem insI_mem {l : List Int} {k : Int} (h : Inc l) (hk : k ∈ l) : insI k l = l := by
  obtain ⟨L, R, rfl⟩ := List.append_of_mem hk
  obtain ⟨a, b, c⟩ := List.pairwise_append.mp h
  exact insI_old (fun x hx => c x hx k (by simp)) (List.pairwise_cons.mp b).1
theorem repI_self (k : Int) (l : List Int) : repI k k l = l := by
  unfold repI
  conv => rhs; rw [← List.map_id l]
  exact List.map_congr_left fun x _ => by by_cases h : x = k <;> simp [h]
def InsI (w : World) (fr : Fm) (news : List (Addr × Obj)) (g : Array GenState) (d : Drawn) (o : OsState) (cr : Addr) (T hh : Nat) (kid : Kid) (e0 : Addr × Int) (n : Nat) (s : Shared) : Prop :=
  ∃ h1 tk1 m1 news1 kid1 q1 es1 kids1, s = ⟨h1, g, d, tk1, o⟩ ∧ Cx w fr m1 news1 h1 ∧ Binds m1 [("self", .ref kid.a), ("element", .ref e0.1), ("in_order", .bool false)] ∧ VW w.params cr T news1 hh kid1 q1 es1 kids1 ∧ kid1.a = kid.a ∧ kid1.ks = kid.ks ∧
    Ch news kid.fp news1 kid1.fp ∧ kid1.fp.Nodup ∧ kid.sz ≤ kid1.sz ∧ kid1.sz ≤ 2 * T - 1 ∧ (n ≠ 0 → kid1.sz < 2 * T - 1) ∧ IsE w.params news1 e0 ∧
    (n = 0 → hh ≠ 0 ∧ ∀ ea eb ka c kb, es1 = ea ++ eb → kids1 = ka ++ c :: kb → ka.length = ea.length → (∀ e ∈ ea, e.2 < e0.2) → (∀ e ∈ eb, e0.2 < e.2) → c.sz < 2 * T - 1)
theorem at_two {ea eb ea' eb' : List (Addr × Int)} {ka kb ka' kb' : List Kid} {l r c : Kid} {md : Addr × Int} {k0 : Int} (h1 : ea ++ md :: eb = ea' ++ eb') (h2 : ka ++ l :: r :: kb = ka' ++ c :: kb') (l1 : ka.length = ea.length) (l2 : ka'.length = ea'.length)
    (g1 : ∀ e ∈ ea, e.2 < k0) (g2 : ∀ e ∈ eb, k0 < e.2) (g3 : ∀ e ∈ ea', e.2 < k0) (g4 : ∀ e ∈ eb', k0 < e.2) : c = l ∨ c = r := by
  have hc : (ka ++ l :: r :: kb)[ka'.length]? = some c := by rw [h2]; simp
  have hz : ea'.length + eb'.length = ea.length + 1 + eb.length := by have := congrArg List.length h1; simp at this; omega
  have key : ea'.length = ea.length ∨ ea'.length = ea.length + 1 := by
    rcases Nat.lt_or_ge ea'.length ea.length with h | h
    · exfalso
      have e1 : (ea' ++ eb')[ea'.length]? = some ea[ea'.length] := by rw [← h1, List.getElem?_append_left h]; exact List.getElem?_eq_getElem h
      rw [List.getElem?_append_right (Nat.le_refl _), Nat.sub_self] at e1
      have := g4 _ (List.mem_of_getElem? e1)
      have := g1 _ (List.getElem_mem h)
      omega
    · rcases Nat.lt_or_ge (ea.length + 1) ea'.length with h' | h'
      · exfalso
        have hb : 0 < eb.length := by omega
        have e1 : (ea ++ md :: eb)[ea.length + 1]? = some eb[0] := by
          rw [List.getElem?_append_right (by omega), show ea.length + 1 - ea.length = 1 by omega, List.getElem?_cons_succ]; exact List.getElem?_eq_getElem hb
        rw [h1, List.getElem?_append_left h'] at e1
        have := g3 _ (List.mem_of_getElem? e1)
        have := g2 _ (List.getElem_mem hb)
        omega
      · omega
  rcases key with h | h
  · rw [l2, h, ← l1] at hc; left; simpa using hc.symm
  · rw [l2, h, ← l1, List.getElem?_append_right (by omega), show ka.length + 1 - ka.length = 1 by omega] at hc
    right; simpa using hc.symm
theorem c_ins (hh : Nat) (IH : ∀ c, hh = c + 1 → InsOk c) : InsOk hh := by
  intro w f m news h E g d tk o Q cr T kid e0 C HT hi hn hE0 h3 h5 hz hd k
  obtain ⟨q, es, kids, V⟩ := HT.view
  have Hn := V.nd
  have hsz := V.sz
  have hqt := V.t
  have hvl : (vals es).length = es.length := vals_length _
  refine' enter (binds := [("self", .ref kid.a), ("element", .ref e0.1), ("in_order", .bool false)]) C ?k6 ?k7 ?kd ?k9 ?kB ?_ ?c2 ?c3 ?c4 ?c5
  (case k6 => k_is); (case k7 => k_is); (case kd => omega); (case k9 => exact rfl); (case kB => exact rfl); (case c2 => exact rfl); (case c3 => exact rfl); (case c4 => exact rfl); (case c5 => decide)
  intro h₀' L' h' C'
  clear C
  repeat walk_at "m.s"
  clear Hn
  refine s_while (InsI w C'.fr news g d o cr T hh kid e0) 1 ⟨_, _, _, news, kid, q, es, kids, rfl, by assumption, ⟨rfl, rfl, rfl, trivial⟩, V, rfl, rfl, Ch.refl, hn, Nat.le_refl _, by omega, fun _ => hz, hE0, fun z => nomatch z⟩ ?_
  clear hqt hvl hsz V
  rintro kk s ⟨h1, tk1, m1, news1, kid1, q1, es1, kids1, rfl, C1, eB, V, ea1, ek1, ch1, hn1, sz1, sz2, sz3, hE1, hA1⟩
  replace C1 := C1.pins eB
  have Hn := V.nd
  rw [ea1] at Hn
  have hE := V.el
  have zz := V.sizes h5 sz2
  have hi1 : Inc kid1.ks := ek1 ▸ hi
  have hA : Asc es1 := Inc.keys (V.ks ▸ hi1)
  obtain ⟨b, tb, hB, hb⟩ := hE1
  repeat walk_at "m.s"
  have hF := ‹Found _ _ _ _›
  refine ifB_split (fun hq => ?_) (fun hq => ?_)
  · subst hq
    obtain ⟨ea, e, eb, rfl, rfl, he⟩ := hF.yes
    have hg := vals_at (ea := ea) (eb := eb) (e := e)
    have hm : e0.2 ∈ kid1.ks := by rw [V.ks, ← he]; exact inter_mem (by simp)
    repeat walk_at "m.s"
    walk_at "m.getV"
    repeat walk_at "m.s"
    have sb := Cx.top ‹Cx w _ _ (_ :: news1) _›
    have P := Place.here (View.mono V sb) he hi1 hn1 zz.1
    refine n_putE (by walk_at "m.C") P.nd P.ne (by omega) (by rw [vals_length, List.length_append, List.length_cons]; omega) (by omega) ?_
    intro h2 news2 C2 H2 ch2
    rw [Int.toNat_natCast, vals_set] at H2
    repeat walk_at "m.s"
    walk_at "m.end"
    refine fun Cc => k _ _ _ _ _ Cc (P.put e0 news2 H2 ch2 ⟨b, tb, (hB.mono fun _ h => .tail _ h).ch ch2, hb⟩) ea1 ?_ sz1 sz2 (ch1.trans ((Ch.refl.sub fun _ h => .tail _ h).step ch2 fun x hx => List.mem_singleton.mp hx ▸ P.mem)) hn1 (fun _ => ⟨_, rfl⟩) fun hx => absurd (ek1 ▸ hm) hx
    show repI e0.2 e0.2 kid1.ks = _
    rw [repI_self, ← ek1, insI_mem hi1 hm]
  · subst hq
    obtain ⟨ea, eb, rfl, rfl, g1, g2⟩ := hF.no
    repeat walk_at "m.s"
    refine ifB_split (fun hlf => ?_) (fun hlf => ?_)
    · have h0 : hh = 0 := by simpa using hlf
      have hk0 : kk ≠ 0 := fun z => (hA1 z).1 h0
      have hsz := V.sz
      have hkl := V.kl hlf
      subst hkl
      have hks : kid1.ks = keys ea ++ keys eb := by rw [V.ks, show kss [] = [] from rfl, inter_nil, keys_append]
      have q1' : ∀ x ∈ keys ea, x < e0.2 := fun x hx => by obtain ⟨y, hy, rfl⟩ := List.mem_map.mp hx; exact g1 y hy
      have q2' : ∀ x ∈ keys eb, e0.2 < x := fun x hx => by obtain ⟨y, hy, rfl⟩ := List.mem_map.mp hx; exact g2 y hy
      repeat walk_at "m.s"
      have sb := Cx.top ‹Cx w _ _ (_ :: news1) _›
      refine n_insE (p := vals ea) (r := vals eb) (by walk_at "m.C") (by rw [← vals_append]; exact (View.mono V fun _ h => .tail _ h).nd) (nd_ne (V.fp ▸ hn1)) (by rw [vals_length]) (by rw [← vals_append, vals_length]; omega) ?_
      intro h2 news2 q2 s2 C2 H2 ch2
      have hE2 := hE
      repeat walk_at "m.s"
      walk_at "m.end"
      have c2 := (Ch.refl (fp := kid1.fp)).sub sb |>.step ch2 (fun x hx => by rw [List.mem_singleton.mp hx, V.fp]; simp)
      refine fun Cc => k _ _ _ ⟨kid1.a, insI e0.2 kid.ks, kid1.fp, kid1.sz + 1⟩ _ Cc (View.tree (q := q2) (es := ea ++ e0 :: eb) (kids := []) ⟨?_, s2.cr.trans V.cr, s2.t.trans V.t, fun x hx => ?_, ?_, ?_, ?_, fun _ => rfl, fun z => by simp [h0] at z, fun x hx => nomatch hx⟩) ea1 rfl (by show _ ≤ kid1.sz + 1; omega) (by have := sz3 hk0; show kid1.sz + 1 ≤ _; omega) (ch1.trans c2) hn1 (fun hx => ?_) (fun _ => rfl)
      · rw [vals_append, vals_cons]; exact H2
      · rcases List.mem_append.mp hx with hx | hx
        · exact (hE x (List.mem_append_left _ hx)).ch c2
        · rcases List.mem_cons.mp hx with rfl | hx
          · exact (IsE.ch ⟨b, tb, hB, hb⟩ c2)
          · exact (hE x (List.mem_append_right _ hx)).ch c2
      · show kid1.sz + 1 = _
        rw [hsz]; simp; omega
      · show insI e0.2 kid.ks = _
        rw [← ek1, hks, insI_new q1' q2', show kss [] = [] from rfl, inter_nil, keys_append, keys_cons]
      · show kid1.fp = _
        rw [V.fp, s2.fp]
      · exfalso
        rw [← ek1, hks] at hx
        rcases List.mem_append.mp hx with hx | hx
        · have := q1' _ hx; omega
        · have := q2' _ hx; omega
    · have h0 : hh ≠ 0 := by simpa using hlf
      obtain ⟨c, rfl⟩ := Nat.exists_eq_succ_of_ne_zero h0
      obtain ⟨ka, y, kb', rfl, l1, l2⟩ := kids_at (V.kl' hlf)
      have hy := V.kz y (by simp)
      have cut := cut_at V.ks hi1 l1 l2 g1 g2
      obtain ⟨yq, yes, ykids, yV⟩ := TreeIn.view hy.2.2
      have Hy := yV.nd
      have hyt := yV.t
      have hys := yV.sz
      have hyl : (vals yes).length = yes.length := vals_length _
      have hg := refs_at (kb := kb') (c := y) l1
      have hyi : Inc y.ks := (cut.eq ▸ hi1).parts.2.1
      have hcr : yq.cr = q1.cr := yV.cr.trans V.cr.symm
      have Hf : NodeIn w.params news1 kid.a q1 false (vals (ea ++ eb)) (refs (ka ++ y :: kb')) := Hn
      have hyn := (sub_nodup V.fp hn1).1
      clear Hn
      repeat walk_at "m.s"
      refine ifB_dec (fun hmx => ?_) (fun hmx => ?_)
      · repeat walk_at "m.s"
        have sb := Cx.top ‹Cx w _ _ (_ :: _ :: news1) _›
        have lb := ‹∀ p ∈ (_ :: news1), p.1 < _›
        refine c_tsplit (by walk_at "m.C") (TreeIn.mono hy.2.2 fun _ h => .tail _ (.tail _ h)) hyi hyn h3 h5 (by omega) (by walk_at "m.dp") ?_
        intro h2 tk2 news2 l r md D C2 HL HR hM la lz rz hks hD sch snd
        have sb' : ∀ p ∈ news1, p ∈ _ := fun p hp => sb p (.tail _ hp)
        repeat walk_at "m.s"
        refine ⟨⟨Cx.get (by walk_at "m.C") (sch.keep List.mem_cons_self fun hb' => by obtain ⟨x, hx⟩ := TreeIn.has hy.2.2 _ hb'; exact Nat.lt_irrefl _ (lb _ (.tail _ hx))), Cx.KX (by walk_at "m.C")⟩, ?_⟩
        have hk0 : kk ≠ 0 := fun z => by have := (hA1 z).2 ea eb ka y kb' rfl rfl l1 g1 g2; omega
        have hz1 := sz3 hk0
        have V1 := View.mono V sb'
        obtain ⟨o1, o2, o3⟩ := V1.oth hn1 sch
        have hinc : Inc (inter (kss ka) (keys ea) ++ (y.ks ++ tailI (kss kb') (keys eb))) := cut.eq ▸ hi1
        obtain ⟨_, _, _, p1, _, p2⟩ := hinc.parts
        have hmy : md.2 ∈ y.ks := by rw [hks]; simp
        have hv1 := V.sz
        have hqt := V.t
        rw [refs_append, refs_cons, ← la, ea1] at o1
        have hrl : (refs ka).length = ea.length := by rw [refs_length, l1]
        have hcz : (refs ka ++ Value.ref l.a :: refs kb').length ≤ 100 := by rw [List.length_append, List.length_cons, refs_length, refs_length]; simp at zz; omega
        obtain ⟨lq, les, lkids, lV⟩ := HL.view
        refine c_adopt (by walk_at "m.C") o1 o2 hM (fun e he => p1 _ (inter_mem he) _ hmy) (fun e he => p2 _ hmy _ (tailI_mem (by rw [kss_length, l2]) he)) hA hrl (by omega) (by omega) hcz (nd_ne (V.fp ▸ hn1)) ⟨_, lV.nd.i⟩ (by walk_at "m.dp") ?_
        intro h3' tk3 news3 q' C3 sm H3 ch3
        obtain ⟨fp', w1, w2, V3⟩ := V1.adopt l1 l2 hn1 sch snd la HL HR lz rz hM hks sm (ea1.symm ▸ H3) ch3
        show wpAny _ _ _ _ _ _
        repeat walk_at "m.s"
        refine ⟨0, Nat.pos_of_ne_zero hk0, _, _, _, news3, _, q', _, _, rfl, by assumption, ⟨rfl, rfl, rfl, trivial⟩, V3, ea1, ek1, ch1.trans ((Ch.refl.sub sb').trans w2), w1, ?_, ?_, fun z => absurd rfl z, ?_, fun _ => ⟨h0, ?_⟩⟩
        · show _ ≤ kid1.sz + 1; omega
        · show kid1.sz + 1 ≤ _; omega
        · exact ((IsE.mono ⟨b, tb, hB, hb⟩ sb').ch sch).ch ch3
        · intro ea' eb' ka' c' kb'' x1 x2 x3 x4 x5
          rcases at_two x1 x2 l1 x3 g1 g2 x4 x5 with rfl | rfl <;> omega
      · repeat walk_at "m.s"
        refine IH c rfl (by walk_at "m.C") (TreeIn.mono hy.2.2 fun _ h => .tail _ h) hyi hyn ⟨b, tb, hB.mono fun _ h => .tail _ h, hb⟩ h3 h5 (by omega) (by walk_at "m.dp") ?_
        intro h2 tk2 news2 y' v C2 HT2 ya yk ys1 ys2 ych yn yv1 yv2
        repeat walk_at "m.s"
        walk_at "m.end"
        obtain ⟨fp', p1, p2, V'⟩ := (View.mono V fun _ h => .tail _ h).turn hn1 ych yn ya HT2 (by omega) ys2
        refine fun Cc => k _ _ _ _ v Cc V'.tree ea1 ?_ sz1 sz2 (ch1.trans ((Ch.refl.sub fun _ h => .tail _ h).trans p2)) p1 (fun hx => yv1 (cut.mem.mp (ek1 ▸ hx))) (fun hx => yv2 fun hx' => hx (ek1 ▸ cut.mem.mpr hx'))
        show inter (kss (ka ++ y' :: kb')) (keys (ea ++ eb)) = _
        rw [ks_at l1 l2, yk, ← ek1, cut.eq, insI_mid cut.l cut.r]
theorem insOk : ∀ hh, InsOk hh
  | 0 => c_ins 0 fun c e => nomatch e
  | h + 1 => c_ins (h + 1) fun c e => by cases e; exact insOk h

local macro_rules | `(tactic| walk_at "m.eval") => `(tactic| ((with_reducible refine' s_mcs ?_ ?he); (case he => exact rfl)))
local macro_rules | `(tactic| walk_at "m.attr") => `(tactic| ((with_reducible refine nb_adopt (by walk_at "m.C") (by walk_at "m.nd") ?_); intro _ _ _ _))
local macro_rules | `(tactic| walk_at "m.cw") => `(tactic| first | ((with_reducible show wpAny _ _ (callWith _ _ _ (backTo _ (starEach [Expr.Starred _ _] _)) []) _ _ _); (with_reducible refine' s_cwbs ?C ?m ?k ?_); (case C => walk_at "m.C"); (case m => walk_at "m.mem"); (case k => k_is)))
local macro_rules | `(tactic| walk_at "m.cw") => `(tactic| ((with_reducible refine' s_cws ?C ?k ?_); (case C => walk_at "m.C"); (case k => k_is)))
local macro_rules | `(tactic| walk_at "m.s") => `(tactic| ((with_reducible refine' s_star ?C ?m ?z ?_); (case C => walk_at "m.C"); (case m => walk_at "m.mem"); (case z => exact Nat.le_of_ble_eq_true rfl); intro _ _))

-- T7
section
variable {P : Params} {cr : Addr} {T : Nat} {news n1 n2 n3 : List (Addr × Obj)} {hh : Nat} {kid l c r : Kid} {q q' ql qc qr : NK} {es es' ea eb les ces res lv rv : List (Addr × Int)} {kids ka kb cc lkids ckids rkids lk yl rk : List Kid} {e x : Addr × Int} {X : List Addr}
theorem inter_join' {A B : List (List Int)} {EA EB : List Int} {k : Int} (h : A.length = EA.length + 1 ∨ (A = [] ∧ B = [])) : inter (A ++ B) (EA ++ k :: EB) = inter A EA ++ k :: inter B EB := by
  rcases h with h | ⟨rfl, rfl⟩
  · exact inter_join _ _ _ _ _ h
  · rw [List.append_nil, inter_nil, inter_nil, inter_nil]
theorem ks_two (h1 : ka.length = ea.length) (h2 : kb.length = eb.length) :
    inter (kss (ka ++ l :: c :: kb)) (keys (ea ++ e :: eb)) = inter (kss ka) (keys ea) ++ (l.ks ++ e.2 :: (c.ks ++ tailI (kss kb) (keys eb))) := by
  rw [kss_append, keys_append, inter_split _ _ _ _ (by rw [kss_length, keys_length, h1]), kss_cons, kss_cons, keys_cons]
  show _ ++ (l.ks ++ e.2 :: inter (c.ks :: kss kb) (keys eb)) = _
  rw [inter_cons _ _ _ (by rw [kss_length, keys_length, h2])]
theorem ks_one (h1 : ka.length = ea.length) (h2 : kb.length = eb.length) :
    inter (kss (ka ++ c :: kb)) (keys (ea ++ eb)) = inter (kss ka) (keys ea) ++ (c.ks ++ tailI (kss kb) (keys eb)) := ks_at h1 h2
theorem dis3 {a b c : List Addr} (h : (a ++ (b ++ c)).Nodup) : (∀ x ∈ a, x ∉ b) ∧ (∀ x ∈ a, x ∉ c) ∧ (∀ x ∈ b, x ∉ c) := by
  simp only [List.nodup_append, List.mem_append] at h
  obtain ⟨h1, ⟨h2, h3, h4⟩, h5⟩ := h
  exact ⟨fun x hx hy => h5 x hx x (.inl hy) rfl, fun x hx hy => h5 x hx x (.inr hy) rfl, fun x hx hy => h4 x hx x hy rfl⟩
/-- all the cells of a node with two children next to each other, as parts -/
theorem View.six (V : VW P cr T n1 (hh + 1) kid q es (ka ++ l :: c :: kb)) (hn : kid.fp.Nodup) (VL : VW P cr T n1 hh l ql les lkids) (VC : VW P cr T n1 hh c qc ces ckids) :
    (q.fp ++ (fps ka ++ ((ql.fp ++ fps lkids) ++ ((qc.fp ++ fps ckids) ++ fps kb)))).Nodup ∧ kid.fp = q.fp ++ (fps ka ++ ((ql.fp ++ fps lkids) ++ ((qc.fp ++ fps ckids) ++ fps kb))) := by
  have e : kid.fp = q.fp ++ (fps ka ++ ((ql.fp ++ fps lkids) ++ ((qc.fp ++ fps ckids) ++ fps kb))) := by rw [V.fp, fps_append, fps_cons, fps_cons, VL.fp, VC.fp]
  exact ⟨e ▸ hn, e⟩
theorem six_far {a b l l' c c' d : List Addr} (h : (a ++ (b ++ ((l ++ l') ++ ((c ++ c') ++ d)))).Nodup) : (∀ x, x ∈ b ∨ x ∈ l' ∨ x ∈ c' ∨ x ∈ d → x ∉ a ++ l ++ c) ∧ (∀ x ∈ a, x ∉ l) ∧ (∀ x ∈ a, x ∉ c) ∧ (∀ x ∈ l, x ∉ c) ∧ a.Nodup ∧ l.Nodup ∧ c.Nodup := by
  simp only [List.nodup_append, List.mem_append] at h
  obtain ⟨h1, ⟨h2, ⟨⟨h3, h4, h5⟩, ⟨⟨h6, h7, h8⟩, h9, h10⟩, h11⟩, h12⟩, h13⟩ := h
  refine ⟨?_, fun x hx hy => h13 x hx x (.inr (.inl (.inl hy))) rfl, fun x hx hy => h13 x hx x (.inr (.inr (.inl (.inl hy)))) rfl, fun x hx hy => h11 x (.inl hx) x (.inl (.inl hy)) rfl, h1, h3, h6⟩
  intro x hx hy
  simp only [List.mem_append] at hy
  rcases hy with (hy | hy) | hy
  · exact h13 x hy x (hx.imp id (fun z => z.elim (fun z => .inl (.inr z)) (fun z => .inr (z.elim (fun z => .inl (.inr z)) .inr)))) rfl
  · rcases hx with hx | hx | hx | hx
    · exact h12 x hx x (.inl (.inl hy)) rfl
    · exact h5 x hy x hx rfl
    · exact h11 x (.inl hy) x (.inl (.inr hx)) rfl
    · exact h11 x (.inl hy) x (.inr hx) rfl
  · rcases hx with hx | hx | hx | hx
    · exact h12 x hx x (.inr (.inl (.inl hy))) rfl
    · exact h11 x (.inr hx) x (.inl (.inl hy)) rfl
    · exact h8 x hy x hx rfl
    · exact h10 x (.inl hy) x hx rfl
theorem View.pair (V : VW P cr T n1 (hh + 1) kid q es (ka ++ l :: c :: kb)) (hn : kid.fp.Nodup) (VL : VW P cr T n1 hh l ql les lkids) (VC : VW P cr T n1 hh c qc ces ckids)
    (ch : Ch n1 (q.fp ++ ql.fp ++ qc.fp) n2 (q.fp ++ ql.fp ++ qc.fp)) (sm : Sm q q') (H : NodeIn P n2 kid.a q' false (vals es') (refs (ka ++ (cc ++ kb)))) (hE : ∀ e ∈ es', IsE P n1 e) (hk : inter (kss (ka ++ (cc ++ kb))) (keys es') = kid.ks)
    (hl : (ka ++ (cc ++ kb)).length = es'.length + 1) (hcc : ∀ x ∈ cc, T - 1 ≤ x.sz ∧ x.sz ≤ 2 * T - 1 ∧ TreeIn P cr T n2 hh x) (hfp : (fps cc).Nodup) (hsub : ∀ b ∈ fps cc, b ∈ l.fp ++ c.fp) :
    ∃ fp', fp'.Nodup ∧ Ch n1 kid.fp n2 fp' ∧ VW P cr T n2 (hh + 1) ⟨kid.a, kid.ks, fp', es'.length⟩ q' es' (ka ++ (cc ++ kb)) := by
  obtain ⟨N, ef⟩ := V.six hn VL VC
  obtain ⟨far, _⟩ := six_far N
  have N2 : (q.fp ++ (fps ka ++ (((ql.fp ++ fps lkids) ++ (qc.fp ++ fps ckids)) ++ fps kb))).Nodup := by rw [List.append_assoc (ql.fp ++ fps lkids)]; exact N
  have hsub' : ∀ b ∈ fps cc, b ∈ (ql.fp ++ fps lkids) ++ (qc.fp ++ fps ckids) := by rw [← VL.fp, ← VC.fp]; exact hsub
  have N3 : (q.fp ++ (fps ka ++ (fps cc ++ fps kb))).Nodup := by
    refine nd_swap N2 hfp fun b hb hy => ?_
    have hb := hsub' b hb
    generalize (ql.fp ++ fps lkids) ++ (qc.fp ++ fps ckids) = Z at *
    simp only [List.nodup_append, List.mem_append] at N2 hy
    obtain ⟨h1, ⟨h2, ⟨h3, h4, h5⟩, h6⟩, h7⟩ := N2
    rcases hy with hy | hy | hy
    · exact h7 b hy b (.inr (.inl hb)) rfl
    · exact h6 b hy b (.inl hb) rfl
    · exact h5 b hb b hy rfl
  have mk : ∀ x, x ∈ ka ∨ x ∈ kb → ∀ b ∈ x.fp, b ∉ q.fp ++ ql.fp ++ qc.fp := fun x hx b hb => far b (hx.elim (fun h => .inl (List.mem_flatMap.mpr ⟨x, h, hb⟩)) fun h => .inr (.inr (.inr (List.mem_flatMap.mpr ⟨x, h, hb⟩))))
  refine ⟨q.fp ++ (fps ka ++ (fps cc ++ fps kb)), N3, ch.weak (fun b hb => ?_) (fun b hb => ?_), ⟨H, sm.cr.trans V.cr, sm.t.trans V.t, fun e he => (hE e he).ch ch, rfl, hk.symm, by rw [sm.fp, fps_append, fps_append], fun h => by simp at h, fun _ => hl, fun x hx => ?_⟩⟩
  · rw [ef]; simp only [List.mem_append] at hb ⊢; grind
  · rw [ef]
    have := hsub' b
    simp only [List.mem_append] at hb this ⊢
    grind
  · rcases List.mem_append.mp hx with hx | hx
    · have := V.kz x (by simp [hx])
      exact ⟨this.1, this.2.1, this.2.2.ch ch (mk x (.inl hx))⟩
    · rcases List.mem_append.mp hx with hx | hx
      · exact hcc x hx
      · have := V.kz x (by simp [hx])
        exact ⟨this.1, this.2.1, this.2.2.ch ch (mk x (.inr hx))⟩
theorem View.grand (V : VW P cr T n1 (hh + 1) kid q es (ka ++ l :: c :: kb)) (hn : kid.fp.Nodup) (VL : VW P cr T n1 hh l ql les lkids) (VC : VW P cr T n1 hh c qc ces ckids)
    (ch : Ch n1 (q.fp ++ ql.fp ++ qc.fp) n2 (q.fp ++ ql.fp ++ qc.fp)) : ∀ y, y ∈ lkids ∨ y ∈ ckids → T - 1 ≤ y.sz ∧ y.sz ≤ 2 * T - 1 ∧ Sub P cr T n2 hh y := by
  obtain ⟨N, ef⟩ := V.six hn VL VC
  obtain ⟨far, _⟩ := six_far N
  intro y hy
  have := hy.elim (VL.kz y) (VC.kz y)
  exact ⟨this.1, this.2.1, this.2.2.ch ch fun b hb => far b (hy.elim (fun h => .inr (.inl (List.mem_flatMap.mpr ⟨y, h, hb⟩))) fun h => .inr (.inr (.inl (List.mem_flatMap.mpr ⟨y, h, hb⟩))))⟩
theorem View.shape (V : VW P cr T n1 hh kid q es kids) : kids.length = es.length + 1 ∨ kids = [] := by
  by_cases h : hh = 0
  · exact .inr (V.kl (by simpa using h))
  · exact .inl (V.kl' (by simpa using h))
end
/-- what balance brings about -/
structure Bal (P : Params) (cr : Addr) (T hh : Nat) (news : List (Addr × Obj)) (kid c : Kid) (news' : List (Addr × Obj)) (kid' : Kid) (q' : NK) (ea' eb' : List (Addr × Int)) (ka' : List Kid) (c' : Kid) (kb' : List Kid) : Prop where
  v : VW P cr T news' (hh + 1) kid' q' (ea' ++ eb') (ka' ++ c' :: kb')
  l1 : ka'.length = ea'.length
  l2 : kb'.length = eb'.length
  a : kid'.a = kid.a
  ks : kid'.ks = kid.ks
  z1 : kid.sz ≤ kid'.sz + 1
  z2 : kid'.sz ≤ kid.sz
  ch : Ch news kid.fp news' kid'.fp
  nd : kid'.fp.Nodup
  z3 : T ≤ c'.sz
  sub : ∀ x ∈ c.ks, x ∈ c'.ks

-- T8
section
variable {w : World} {f : Fm} {m : PySem.Str → Option Value} {news : List (Addr × Obj)} {h : Heap} {E : Value → Shared → Prop}
  {g : Array GenState} {d : Drawn} {tk : Nat} {o : OsState} {Q : Value → Shared → Prop}
variable {cr : Addr} {T hh : Nat} {kid c l r : Kid} {q ql qc qr : NK} {es ea eb les ces lv : List (Addr × Int)} {kids ka kb lkids ckids : List Kid} {e x : Addr × Int} {i : Int} {t : Tok}
/-- the last element and child -/
theorem View.lastOf {P : Params} {n1 : List (Addr × Obj)} (V : VW P cr T n1 hh kid q es kids) (h : 1 ≤ es.length) : ∃ lv x lk yl, es = lv ++ [x] ∧ kids = lk ++ yl ∧ ((lk.length = lv.length + 1 ∧ ∃ y, yl = [y]) ∨ (lk = [] ∧ yl = [] ∧ hh = 0)) ∧ (decide (hh = 0) = false → ∃ y, yl = [y]) ∧ (decide (hh = 0) = true → lk = [] ∧ yl = []) := by
  rcases List.eq_nil_or_concat es with rfl | ⟨lv, x, rfl⟩
  · simp at h
  rw [List.concat_eq_append]
  by_cases h0 : hh = 0
  · have := V.kl (by simpa using h0)
    subst this
    exact ⟨lv, x, [], [], rfl, rfl, .inr ⟨rfl, rfl, h0⟩, fun z => by simp [h0] at z, fun _ => ⟨rfl, rfl⟩⟩
  · have hk := V.kl' (by simpa using h0)
    rcases List.eq_nil_or_concat kids with rfl | ⟨lk, y, rfl⟩
    · simp at hk
    · rw [List.concat_eq_append] at *
      simp at hk
      exact ⟨lv, x, lk, [y], rfl, rfl, .inl ⟨by omega, y, rfl⟩, fun _ => ⟨y, rfl⟩, fun z => absurd z (by simpa using h0)⟩
theorem View.firstOf {P : Params} {n1 : List (Addr × Obj)} (V : VW P cr T n1 hh kid q es kids) (h : 1 ≤ es.length) : ∃ rv x rk yl, es = x :: rv ∧ kids = yl ++ rk ∧ ((rk.length = rv.length + 1 ∧ ∃ y, yl = [y]) ∨ (rk = [] ∧ yl = [] ∧ hh = 0)) ∧ (decide (hh = 0) = false → ∃ y, yl = [y]) ∧ (decide (hh = 0) = true → rk = [] ∧ yl = []) := by
  cases es with
  | nil => simp at h
  | cons x rv =>
  by_cases h0 : hh = 0
  · have := V.kl (by simpa using h0)
    subst this
    exact ⟨rv, x, [], [], rfl, rfl, .inr ⟨rfl, rfl, h0⟩, fun z => by simp [h0] at z, fun _ => ⟨rfl, rfl⟩⟩
  · have hk := V.kl' (by simpa using h0)
    cases kids with
    | nil => simp at hk
    | cons y rk =>
      simp at hk
      exact ⟨rv, x, rk, [y], rfl, rfl, .inl ⟨by omega, y, rfl⟩, fun _ => ⟨y, rfl⟩, fun z => absurd z (by simpa using h0)⟩
theorem refs_yl {yl : List Kid} (h : ∃ y, yl = [y]) : ∃ y, refs yl = [y] := by obtain ⟨y, rfl⟩ := h; exact ⟨_, rfl⟩
theorem c_tl (C : Cx w f m news h) (V : VW w.params cr T news (hh + 1) kid q (ea ++ eb) (ka ++ c :: kb)) (l1 : ka.length = ea.length) (l2 : kb.length = eb.length) (hn : kid.fp.Nodup) (h3 : 3 ≤ T) (h5 : T ≤ 5) (hz : kid.sz ≤ 2 * T - 1) (hc : c.sz = T - 1) (hi : i = (ka.length : Int)) (hd : f.dp + 3 < 1000)
    (k0 : (∀ k1 l, ka = k1 ++ [l] → l.sz = T - 1) → ∀ h' tk', Cx w f m news h' → Q (.bool false) ⟨h', g, d, tk', o⟩)
    (k1 : ∀ h' tk' news' kid' q' ea' eb' ka' c' kb', Cx w f m news' h' → Bal w.params cr T hh news kid c news' kid' q' ea' eb' ka' c' kb' → Q (.bool true) ⟨h', g, d, tk', o⟩) :
    wpAny (MM w) (AR f) (call (.ref 344) [.ref c.a, .ref kid.a, .int i t]) Q E ⟨h, g, d, tk, o⟩ := by
  rcases List.eq_nil_or_concat ka with rfl | ⟨ka, l, rfl⟩
  · subst hi
    exact c_lsteal0 C hd (k0 fun k1 l e => by simp at e)
  rw [List.concat_eq_append] at *
  rcases List.eq_nil_or_concat ea with rfl | ⟨ea, e, rfl⟩
  · simp at l1
  rw [List.concat_eq_append] at *
  rw [List.append_assoc, List.singleton_append] at V
  have V' := V
  rw [List.append_assoc, List.singleton_append] at V'
  have l1' : ka.length = ea.length := by simpa using l1
  have hl := V'.kz l (by simp)
  have hcz := V'.kz c (by simp)
  obtain ⟨ql, les, lkids, VL⟩ := TreeIn.view hl.2.2
  obtain ⟨qc, ces, ckids, VC⟩ := TreeIn.view hcz.2.2
  have sl := VL.sz
  have sc := VC.sz
  obtain ⟨lv, x, lk, yl, rfl, rfl, hsh, hy1, hy2⟩ := VL.lastOf (by omega)
  obtain ⟨N, ef⟩ := V'.six hn VL VC
  obtain ⟨far, f1, f2, f3, f4, f5, f6⟩ := six_far N
  have zp := V'.sizes h5 hz
  have zl := VL.sizes h5 hl.2.1
  have zc := VC.sizes h5 hcz.2.1
  have sl' : l.sz = lv.length + 1 := by rw [sl]; simp
  have Hp := V'.nd
  rw [refs_append, refs_cons, refs_cons] at Hp
  have Hl := VL.nd
  rw [refs_append] at Hl
  refine c_lsteal (e := e) (T := T) C Hp (by rw [refs_length, l1']) (by rw [hi]; simp; omega) ?_ zp.2.2.2.1 Hl VC.nd (fun h => ?_) (fun h => refs_yl (hy1 h)) (by simp; omega) (by simp; omega) ?_ zc.2.2.1 zc.2.2.2.2 VL.t h3 h5 (VL.cr.trans V'.cr.symm) f1 f2 f3 ?_ ?_ ?_ hd ?_ ?_
  · have := zp.2.2.2.2; rw [refs_append, refs_cons, refs_cons] at this; exact this
  · obtain ⟨rfl, rfl⟩ := hy2 h; exact ⟨rfl, rfl⟩
  · have := zl.2.2.2.2; rw [refs_append] at this; exact this
  · exact nd_ne (l := []) (by rw [List.append_nil]; exact f4)
  · exact nd_ne (l := []) (by rw [List.append_nil]; exact f5)
  · exact nd_ne (l := []) (by rw [List.append_nil]; exact f6)
  · intro hs h' tk' C'
    refine k0 (fun k1 l' e' => ?_) h' tk' C'
    have := List.append_inj_right' e' rfl
    have : l' = l := by simpa using this.symm
    subst this; omega
  · intro hs h' tk' news' qp' ql' qs' C' sp sl3 ss HP HL HS ch
    have gr := V'.grand hn VL VC ch
    have ejoin : (kss lk).length = (keys lv).length + 1 ∨ (kss lk = [] ∧ kss yl = []) := by
      rcases hsh with ⟨h, _⟩ | ⟨rfl, rfl, _⟩
      · left; rw [kss_length, keys_length, h]
      · right; exact ⟨rfl, rfl⟩
    have ejoin2 : (kss yl).length = (keys []).length + 1 ∨ (kss yl = [] ∧ kss ckids = []) := by
      rcases hsh with ⟨_, y, rfl⟩ | ⟨rfl, rfl, h0⟩
      · left; rfl
      · right; exact ⟨rfl, by rw [VC.kl (by simpa using h0)]; rfl⟩
    have eL : l.ks = inter (kss lk) (keys lv) ++ x.2 :: inter (kss yl) [] := by rw [VL.ks, kss_append, keys_append, keys_cons, inter_join' ejoin]; rfl
    have eC : inter (kss (yl ++ ckids)) (keys (e :: ces)) = inter (kss yl) [] ++ e.2 :: c.ks := by rw [kss_append, keys_cons, VC.ks]; exact inter_join' ejoin2
    have TL : TreeIn w.params cr T news' hh ⟨l.a, inter (kss lk) (keys lv), ql.fp ++ fps lk, lv.length⟩ :=
      View.tree (q := ql') (es := lv) (kids := lk) ⟨HL, sl3.cr.trans VL.cr, sl3.t.trans VL.t, fun e he => (VL.el e (by simp [he])).ch ch, rfl, rfl, by rw [sl3.fp], fun h => (hy2 h).1, fun h => by
        rcases hsh with ⟨h, _⟩ | ⟨_, _, h0⟩
        · exact h
        · exact absurd h (by simpa using h0), fun y hy => gr y (.inl (by simp [hy]))⟩
    have TC : TreeIn w.params cr T news' hh ⟨c.a, inter (kss (yl ++ ckids)) (keys (e :: ces)), qc.fp ++ fps (yl ++ ckids), ces.length + 1⟩ :=
      View.tree (q := qs') (es := e :: ces) (kids := yl ++ ckids) ⟨by rw [refs_append]; exact HS, ss.cr.trans VC.cr, ss.t.trans VC.t, fun e' he => by
        rcases List.mem_cons.mp he with rfl | he
        · exact (V'.el e' (by simp)).ch ch
        · exact (VC.el e' he).ch ch, rfl, rfl, by rw [ss.fp], fun h => by rw [(hy2 h).2, VC.kl h]; rfl, fun h => by
        obtain ⟨y, rfl⟩ := hy1 h
        have := VC.kl' h
        simp; omega, fun y hy => gr y (by rcases List.mem_append.mp hy with hy | hy; exact .inl (by simp [hy]); exact .inr hy)⟩
    have HE : ∀ e' ∈ ea ++ x :: eb, IsE w.params news e' := fun e' he => by
      rcases List.mem_append.mp he with he | he
      · exact V'.el e' (by simp [he])
      · rcases List.mem_cons.mp he with rfl | he
        · exact VL.el e' (by simp)
        · exact V'.el e' (by simp [he])
    have pr := View.pair V' hn VL VC ch sp (cc := [⟨l.a, inter (kss lk) (keys lv), ql.fp ++ fps lk, lv.length⟩, ⟨c.a, inter (kss (yl ++ ckids)) (keys (e :: ces)), qc.fp ++ fps (yl ++ ckids), ces.length + 1⟩]) (es' := ea ++ x :: eb)
      (by rw [refs_append]; exact HP) HE ?x1 ?x2 ?x3 ?x4 ?x5
    rotate_left
    · rw [V'.ks, ks_two l1' l2]
      show inter (kss (ka ++ _ :: _ :: kb)) _ = _
      rw [ks_two l1' l2, eL]
      show _ ++ (inter (kss lk) (keys lv) ++ x.2 :: (inter (kss (yl ++ ckids)) (keys (e :: ces)) ++ _)) = _
      rw [eC]; simp
    · simp; omega
    · intro y hy
      rcases List.mem_cons.mp hy with rfl | hy
      · exact ⟨by show T - 1 ≤ lv.length; omega, by show lv.length ≤ _; omega, TL⟩
      · rw [List.mem_singleton.mp hy]
        exact ⟨by show T - 1 ≤ ces.length + 1; omega, by show ces.length + 1 ≤ _; omega, TC⟩
    · have hN : (l.fp ++ c.fp).Nodup := by
        rw [VL.fp, VC.fp]
        simp only [List.nodup_append, List.mem_append] at N ⊢
        grind
      rw [VL.fp, VC.fp, fps_append] at hN
      rw [fps_cons, fps_cons, show fps [] = [] from rfl, List.append_nil, fps_append]
      refine (List.Perm.nodup_iff ?_).mp hN
      simp only [List.append_assoc]
      exact ((List.perm_append_comm_assoc _ _ _).append_left _).append_left _
    · intro b hb
      rw [fps_cons, fps_cons, show fps [] = [] from rfl, List.append_nil, fps_append] at hb
      rw [VL.fp, VC.fp, fps_append]
      simp only [List.mem_append] at hb ⊢
      grind
    obtain ⟨fp', w1, w2, V2⟩ := pr
    · refine k1 h' tk' news' ⟨kid.a, kid.ks, fp', (ea ++ x :: eb).length⟩ qp' (ea ++ [x]) eb (ka ++ [⟨l.a, inter (kss lk) (keys lv), ql.fp ++ fps lk, lv.length⟩]) ⟨c.a, inter (kss (yl ++ ckids)) (keys (e :: ces)), qc.fp ++ fps (yl ++ ckids), ces.length + 1⟩ kb C' ⟨by rw [List.append_assoc, List.append_assoc]; exact V2, by simp [l1'], l2, rfl, rfl, ?_, ?_, w2, w1, ?_, ?_⟩
      · rw [V'.sz]; simp
      · rw [V'.sz]; simp
      · show T ≤ ces.length + 1; omega
      · intro y hy
        show y ∈ inter (kss (yl ++ ckids)) (keys (e :: ces))
        rw [eC]; simp [hy]
theorem c_tr (C : Cx w f m news h) (V : VW w.params cr T news (hh + 1) kid q (ea ++ eb) (ka ++ c :: kb)) (l1 : ka.length = ea.length) (l2 : kb.length = eb.length) (hn : kid.fp.Nodup) (h3 : 3 ≤ T) (h5 : T ≤ 5) (hz : kid.sz ≤ 2 * T - 1) (hc : c.sz = T - 1) (hi : i = (ka.length : Int)) (hd : f.dp + 3 < 1000)
    (k0 : (∀ r k1, kb = r :: k1 → r.sz = T - 1) → ∀ h' tk', Cx w f m news h' → Q (.bool false) ⟨h', g, d, tk', o⟩)
    (k1 : ∀ h' tk' news' kid' q' ea' eb' ka' c' kb', Cx w f m news' h' → Bal w.params cr T hh news kid c news' kid' q' ea' eb' ka' c' kb' → Q (.bool true) ⟨h', g, d, tk', o⟩) :
    wpAny (MM w) (AR f) (call (.ref 351) [.ref c.a, .ref kid.a, .int i t]) Q E ⟨h, g, d, tk, o⟩ := by
  cases kb with
  | nil =>
    refine c_rsteal0 C V.nd (by rw [hi, refs_length]; simp) ?_ hd (k0 fun r k1 e => by simp at e)
    exact (V.sizes h5 hz).2.2.2.2
  | cons r kb =>
  cases eb with
  | nil => simp at l2
  | cons e eb =>
  have l2' : kb.length = eb.length := by simpa using l2
  have hr := V.kz r (by simp)
  have hcz := V.kz c (by simp)
  obtain ⟨qr, res, rkids, VR⟩ := TreeIn.view hr.2.2
  obtain ⟨qc, ces, ckids, VC⟩ := TreeIn.view hcz.2.2
  have sr := VR.sz
  have sc := VC.sz
  obtain ⟨rv, x, rk, yl, rfl, rfl, hsh, hy1, hy2⟩ := VR.firstOf (by omega)
  obtain ⟨N, ef⟩ := V.six hn VC VR
  obtain ⟨far, f1, f2, f3, f4, f5, f6⟩ := six_far N
  have zp := V.sizes h5 hz
  have zr := VR.sizes h5 hr.2.1
  have zc := VC.sizes h5 hcz.2.1
  have sr' : r.sz = rv.length + 1 := by rw [sr]; simp
  have Hp := V.nd
  rw [refs_append, refs_cons, refs_cons] at Hp
  have Hr := VR.nd
  rw [refs_append] at Hr
  refine c_rsteal (e := e) (T := T) C Hp (by rw [refs_length, l1]) (by rw [hi, l1]) ?_ zp.2.2.2.1 Hr VC.nd (fun h => ?_) (fun h => refs_yl (hy1 h)) (by simp; omega) (by simp; omega) ?_ zc.2.2.1 zc.2.2.2.2 VR.t h3 h5 (VR.cr.trans V.cr.symm) f2 f1 (fun y hy hy' => f3 y hy' hy) ?_ ?_ ?_ hd ?_ ?_
  · have := zp.2.2.2.2; rw [refs_append, refs_cons, refs_cons] at this; exact this
  · obtain ⟨rfl, rfl⟩ := hy2 h; rw [VC.kl h]; exact ⟨rfl, rfl, rfl⟩
  · have := zr.2.2.2.2; rw [refs_append] at this; exact this
  · exact nd_ne (l := []) (by rw [List.append_nil]; exact f4)
  · exact nd_ne (l := []) (by rw [List.append_nil]; exact f6)
  · exact nd_ne (l := []) (by rw [List.append_nil]; exact f5)
  · intro hs h' tk' C'
    refine k0 (fun r' k1 e' => ?_) h' tk' C'
    have : r' = r := by simp at e'; exact e'.1.symm
    subst this; omega
  · intro hs h' tk' news' qp' ql' qs' C' sp sl3 ss HP HL HS ch
    have ch : Ch news (q.fp ++ qc.fp ++ qr.fp) news' (q.fp ++ qc.fp ++ qr.fp) := ch.weak (fun b hb => by simp only [List.mem_append] at hb ⊢; grind) (fun b hb => by simp only [List.mem_append] at hb ⊢; grind)
    have gr := V.grand hn VC VR ch
    have ejoin : (kss ckids).length = (keys ces).length + 1 ∨ (kss ckids = [] ∧ kss yl = []) := by
      rcases hsh with ⟨h, y, rfl⟩ | ⟨rfl, rfl, h0⟩
      · left
        rcases VC.shape with h' | h'
        · rw [kss_length, keys_length, h']
        · have := VR.shape
          simp at this
          have h0 : hh ≠ 0 := fun z => by have := VR.kl (by simpa using z); simp at this
          have := VC.kl' (by simpa using h0)
          rw [h'] at this; simp at this
      · right; exact ⟨by rw [VC.kl (by simpa using h0)]; rfl, rfl⟩
    have ejoin2 : (kss yl).length = (keys []).length + 1 ∨ (kss yl = [] ∧ kss rk = []) := by
      rcases hsh with ⟨_, y, rfl⟩ | ⟨rfl, rfl, h0⟩
      · left; rfl
      · right; exact ⟨rfl, rfl⟩
    have eC : inter (kss (ckids ++ yl)) (keys (ces ++ [e])) = c.ks ++ e.2 :: inter (kss yl) [] := by rw [kss_append, keys_append, keys_cons, inter_join' ejoin, VC.ks]; rfl
    have eR : r.ks = inter (kss yl) [] ++ x.2 :: inter (kss rk) (keys rv) := by rw [VR.ks, kss_append, keys_cons]; exact inter_join' ejoin2
    have TR : TreeIn w.params cr T news' hh ⟨r.a, inter (kss rk) (keys rv), qr.fp ++ fps rk, rv.length⟩ :=
      View.tree (q := ql') (es := rv) (kids := rk) ⟨HL, sl3.cr.trans VR.cr, sl3.t.trans VR.t, fun e he => (VR.el e (by simp [he])).ch ch, rfl, rfl, by rw [sl3.fp], fun h => (hy2 h).1, fun h => by
        rcases hsh with ⟨h, _⟩ | ⟨_, _, h0⟩
        · exact h
        · exact absurd h (by simpa using h0), fun y hy => gr y (.inr (by simp [hy]))⟩
    have TC : TreeIn w.params cr T news' hh ⟨c.a, inter (kss (ckids ++ yl)) (keys (ces ++ [e])), qc.fp ++ fps (ckids ++ yl), ces.length + 1⟩ :=
      View.tree (q := qs') (es := ces ++ [e]) (kids := ckids ++ yl) ⟨by rw [refs_append]; exact HS, ss.cr.trans VC.cr, ss.t.trans VC.t, fun e' he => by
        rcases List.mem_append.mp he with he | he
        · exact (VC.el e' he).ch ch
        · rw [List.mem_singleton.mp he]; exact (V.el e (by simp)).ch ch, by simp, rfl, by rw [ss.fp], fun h => by rw [(hy2 h).2, VC.kl h]; rfl, fun h => by
        obtain ⟨y, rfl⟩ := hy1 h
        have := VC.kl' h
        simp; omega, fun y hy => gr y (by rcases List.mem_append.mp hy with hy | hy; exact .inl hy; exact .inr (by simp [hy]))⟩
    have HE : ∀ e' ∈ ea ++ x :: eb, IsE w.params news e' := fun e' he => by
      rcases List.mem_append.mp he with he | he
      · exact V.el e' (by simp [he])
      · rcases List.mem_cons.mp he with rfl | he
        · exact VR.el e' (by simp)
        · exact V.el e' (by simp [he])
    have pr := View.pair V hn VC VR ch sp (cc := [⟨c.a, inter (kss (ckids ++ yl)) (keys (ces ++ [e])), qc.fp ++ fps (ckids ++ yl), ces.length + 1⟩, ⟨r.a, inter (kss rk) (keys rv), qr.fp ++ fps rk, rv.length⟩]) (es' := ea ++ x :: eb)
      (by rw [refs_append]; exact HP) HE ?x1 ?x2 ?x3 ?x4 ?x5
    rotate_left
    · rw [V.ks, ks_two l1 l2']
      show inter (kss (ka ++ _ :: _ :: kb)) _ = _
      rw [ks_two l1 l2', eR]
      show _ ++ (inter (kss (ckids ++ yl)) (keys (ces ++ [e])) ++ x.2 :: (inter (kss rk) (keys rv) ++ _)) = _
      rw [eC]; simp
    · simp; omega
    · intro y hy
      rcases List.mem_cons.mp hy with rfl | hy
      · exact ⟨by show T - 1 ≤ ces.length + 1; omega, by show ces.length + 1 ≤ _; omega, TC⟩
      · rw [List.mem_singleton.mp hy]
        exact ⟨by show T - 1 ≤ rv.length; omega, by show rv.length ≤ _; omega, TR⟩
    · have hN : (c.fp ++ r.fp).Nodup := by
        rw [VC.fp, VR.fp]
        simp only [List.nodup_append, List.mem_append] at N ⊢
        grind
      rw [VC.fp, VR.fp, fps_append] at hN
      rw [fps_cons, fps_cons, show fps [] = [] from rfl, List.append_nil, fps_append]
      refine (List.Perm.nodup_iff ?_).mp hN
      simp only [List.append_assoc]
      exact ((List.perm_append_comm_assoc _ _ _).append_left _).append_left _
    · intro b hb
      rw [fps_cons, fps_cons, show fps [] = [] from rfl, List.append_nil, fps_append] at hb
      rw [VC.fp, VR.fp, fps_append]
      simp only [List.mem_append] at hb ⊢
      grind
    obtain ⟨fp', w1, w2, V2⟩ := pr
    refine k1 h' tk' news' ⟨kid.a, kid.ks, fp', (ea ++ x :: eb).length⟩ qp' ea (x :: eb) ka ⟨c.a, inter (kss (ckids ++ yl)) (keys (ces ++ [e])), qc.fp ++ fps (ckids ++ yl), ces.length + 1⟩ (⟨r.a, inter (kss rk) (keys rv), qr.fp ++ fps rk, rv.length⟩ :: kb) C' ⟨V2, l1, by simp [l2'], rfl, rfl, ?_, ?_, w2, w1, ?_, ?_⟩
    · rw [V.sz]; simp
    · rw [V.sz]; simp
    · show T ≤ ces.length + 1; omega
    · intro y hy
      show y ∈ inter (kss (ckids ++ yl)) (keys (ces ++ [e]))
      rw [eC]; simp [hy]
/-- two minimal children made one: the node s takes over the node r behind it -/
theorem c_tm (C : Cx w f m news h) (V : VW w.params cr T news (hh + 1) kid q (ea ++ e :: eb) (ka ++ c :: r :: kb)) (l1 : ka.length = ea.length) (l2 : kb.length = eb.length) (hn : kid.fp.Nodup) (h3 : 3 ≤ T) (h5 : T ≤ 5) (hz : kid.sz ≤ 2 * T - 1) (hc : c.sz = T - 1) (hr : r.sz = T - 1) (hi : i = (ka.length : Int)) (hd : f.dp + 3 < 1000)
    (k1 : ∀ h' tk' news' kid' q' ea' eb' ka' c' kb', Cx w f m news' h' → Bal w.params cr T hh news kid c news' kid' q' ea' eb' ka' c' kb' → Bal w.params cr T hh news kid r news' kid' q' ea' eb' ka' c' kb' → Q .none ⟨h', g, d, tk', o⟩) :
    wpAny (MM w) (AR f) (call (.ref 365) [.ref c.a, .ref kid.a, .int i t]) Q E ⟨h, g, d, tk, o⟩ := by
  have hrz := V.kz r (by simp)
  have hcz := V.kz c (by simp)
  obtain ⟨qr, res, rkids, VR⟩ := TreeIn.view hrz.2.2
  obtain ⟨qc, ces, ckids, VC⟩ := TreeIn.view hcz.2.2
  have sr := VR.sz
  have sc := VC.sz
  obtain ⟨N, ef⟩ := V.six hn VC VR
  obtain ⟨far, f1, f2, f3, f4, f5, f6⟩ := six_far N
  have zp := V.sizes h5 hz
  have zr := VR.sizes h5 hrz.2.1
  have zc := VC.sizes h5 hcz.2.1
  have Hp := V.nd
  rw [refs_append, refs_cons, refs_cons] at Hp
  refine c_merge (e := e) C Hp (by rw [refs_length, l1]) (by rw [hi, l1]) ?_ zp.2.2.2.1 VR.nd VC.nd (fun h => ?_) (fun h => ?_) zr.2.2.1 (by omega) zr.2.2.2.2 zc.2.2.1 zc.2.2.2.2 f2 f1 (fun y hy hy' => f3 y hy' hy) ?_ ?_ hd ?_
  · have := zp.2.2.2.2; rw [refs_append, refs_cons, refs_cons] at this; exact this
  · rw [VC.kl h, VR.kl h]; exact ⟨rfl, rfl⟩
  · rw [refs_length, VR.kl' h]; omega
  · exact nd_ne (l := []) (by rw [List.append_nil]; exact f4)
  · exact nd_ne (l := []) (by rw [List.append_nil]; exact f5)
  · intro h' tk' news' qp' qs' C' sp ss HP HS ch
    have ch : Ch news (q.fp ++ qc.fp ++ qr.fp) news' (q.fp ++ qc.fp ++ qr.fp) := ch.weak (fun b hb => by simp only [List.mem_append] at hb ⊢; grind) (fun b hb => by simp only [List.mem_append] at hb ⊢; grind)
    have gr := V.grand hn VC VR ch
    have ejoin : (kss ckids).length = (keys ces).length + 1 ∨ (kss ckids = [] ∧ kss rkids = []) := by
      by_cases h0 : hh = 0
      · right; exact ⟨by rw [VC.kl (by simpa using h0)]; rfl, by rw [VR.kl (by simpa using h0)]; rfl⟩
      · left; rw [kss_length, keys_length, VC.kl' (by simpa using h0)]
    have eC : inter (kss (ckids ++ rkids)) (keys (ces ++ e :: res)) = c.ks ++ e.2 :: r.ks := by rw [kss_append, keys_append, keys_cons, inter_join' ejoin, VC.ks, VR.ks]
    have TC : TreeIn w.params cr T news' hh ⟨c.a, inter (kss (ckids ++ rkids)) (keys (ces ++ e :: res)), qc.fp ++ fps (ckids ++ rkids), ces.length + 1 + res.length⟩ :=
      View.tree (q := qs') (es := ces ++ e :: res) (kids := ckids ++ rkids) ⟨by rw [refs_append]; exact HS, ss.cr.trans VC.cr, ss.t.trans VC.t, fun e' he => by
        rcases List.mem_append.mp he with he | he
        · exact (VC.el e' he).ch ch
        · rcases List.mem_cons.mp he with rfl | he
          · exact (V.el e' (by simp)).ch ch
          · exact (VR.el e' he).ch ch, by simp; omega, rfl, by rw [ss.fp], fun h => by rw [VR.kl h, VC.kl h]; rfl, fun h => by
        have := VC.kl' h
        have := VR.kl' h
        simp; omega, fun y hy => gr y (List.mem_append.mp hy)⟩
    have HE : ∀ e' ∈ ea ++ eb, IsE w.params news e' := fun e' he => V.el e' (by rcases List.mem_append.mp he with he | he <;> simp [he])
    have pr := View.pair V hn VC VR ch sp (cc := [⟨c.a, inter (kss (ckids ++ rkids)) (keys (ces ++ e :: res)), qc.fp ++ fps (ckids ++ rkids), ces.length + 1 + res.length⟩]) (es' := ea ++ eb)
      (by rw [refs_append]; exact HP) HE ?x1 ?x2 ?x3 ?x4 ?x5
    rotate_left
    · rw [V.ks, ks_two l1 l2]
      show inter (kss (ka ++ _ :: kb)) _ = _
      rw [ks_one l1 l2]
      show _ ++ (inter (kss (ckids ++ rkids)) (keys (ces ++ e :: res)) ++ _) = _
      rw [eC]; simp
    · simp; omega
    · intro y hy
      rw [List.mem_singleton.mp hy]
      exact ⟨by show T - 1 ≤ ces.length + 1 + res.length; omega, by show ces.length + 1 + res.length ≤ _; omega, TC⟩
    · have hN : (c.fp ++ r.fp).Nodup := by
        rw [VC.fp, VR.fp]
        simp only [List.nodup_append, List.mem_append] at N ⊢
        grind
      rw [VC.fp, VR.fp, List.append_assoc] at hN
      rw [fps_cons, show fps [] = [] from rfl, List.append_nil, fps_append]
      exact hN.sublist (((List.sublist_append_right _ _).append_left _).append_left _)
    · intro b hb
      rw [fps_cons, show fps [] = [] from rfl, List.append_nil, fps_append] at hb
      rw [VC.fp, VR.fp]
      simp only [List.mem_append] at hb ⊢
      grind
    obtain ⟨fp', w1, w2, V2⟩ := pr
    have b1 : kid.sz ≤ (ea ++ eb).length + 1 := by rw [V.sz]; simp; omega
    have b2 : (ea ++ eb).length ≤ kid.sz := by rw [V.sz]; simp
    refine k1 h' tk' news' ⟨kid.a, kid.ks, fp', (ea ++ eb).length⟩ qp' ea eb ka ⟨c.a, inter (kss (ckids ++ rkids)) (keys (ces ++ e :: res)), qc.fp ++ fps (ckids ++ rkids), ces.length + 1 + res.length⟩ kb C'
      ⟨V2, l1, l2, rfl, rfl, b1, b2, w2, w1, by show T ≤ ces.length + 1 + res.length; omega, fun y hy => ?_⟩ ⟨V2, l1, l2, rfl, rfl, b1, b2, w2, w1, by show T ≤ ces.length + 1 + res.length; omega, fun y hy => ?_⟩
    · show y ∈ inter (kss (ckids ++ rkids)) (keys (ces ++ e :: res))
      rw [eC]; simp [hy]
    · show y ∈ inter (kss (ckids ++ rkids)) (keys (ces ++ e :: res))
      rw [eC]; simp [hy]
end

-- T9
section
variable {w : World} {f : Fm} {m : PySem.Str → Option Value} {news : List (Addr × Obj)} {h : Heap} {E : Value → Shared → Prop}
  {g : Array GenState} {d : Drawn} {tk : Nat} {o : OsState} {Q : Value → Shared → Prop}
variable {cr : Addr} {T hh : Nat} {kid c l r : Kid} {q ql qc qr : NK} {es ea eb les ces lv : List (Addr × Int)} {kids ka kb lkids ckids : List Kid} {e x : Addr × Int} {i : Int} {t : Tok}
theorem c_balance (C : Cx w f m news h) (V : VW w.params cr T news (hh + 1) kid q (ea ++ eb) (ka ++ c :: kb)) (l1 : ka.length = ea.length) (l2 : kb.length = eb.length) (hn : kid.fp.Nodup) (h3 : 3 ≤ T) (h5 : T ≤ 5) (hz : kid.sz ≤ 2 * T - 1) (hz1 : 1 ≤ kid.sz) (hc : c.sz = T - 1) (hi : i = (ka.length : Int)) (hd : f.dp + 4 < 1000)
    (k : ∀ h' tk' news' kid' q' ea' eb' ka' c' kb', Cx w f m news' h' → Bal w.params cr T hh news kid c news' kid' q' ea' eb' ka' c' kb' → Q .none ⟨h', g, d, tk', o⟩) :
    wpAny (MM w) (AR f) (call (.ref 386) [.ref c.a, .ref kid.a, .int i t]) Q E ⟨h, g, d, tk, o⟩ := by
  have hcz := V.kz c (by simp)
  obtain ⟨qc, ces, ckids, VC⟩ := TreeIn.view hcz.2.2
  have Hk : NodeIn w.params news kid.a q false (vals (ea ++ eb)) (refs (ka ++ c :: kb)) := V.nd
  have Hc := VC.nd
  refine' enter (binds := [("self", .ref c.a), ("parent", .ref kid.a), ("index", .int i t)]) C ?k6 ?k7 ?kd ?k9 ?kB ?_ ?c2 ?c3 ?c4 ?c5
  (case k6 => k_is); (case k7 => k_is); (case kd => omega); (case k9 => exact rfl); (case kB => exact rfl); (case c2 => exact rfl); (case c3 => exact rfl); (case c4 => exact rfl); (case c5 => decide)
  intro h₀' L' h' C'
  clear C
  repeat walk_at "m.s"
  refine c_tl (by walk_at "m.C") V l1 l2 hn h3 h5 hz hc hi (by walk_at "m.dp") (fun hL h2 tk2 C2 => ?_) fun h2 tk2 news2 kid' q' ea' eb' ka' c' kb' C2 B => ?_
  · repeat walk_at "m.s"
    refine c_tr (by walk_at "m.C") V l1 l2 hn h3 h5 hz hc hi (by walk_at "m.dp") (fun hR h3' tk3 C3 => ?_) fun h2 tk2 news2 kid' q' ea' eb' ka' c' kb' C2 B => ?_
    · repeat walk_at "m.s"
      refine ifB_dec (fun h0 => ?_) (fun h0 => ?_)
      · have hka : ka = [] := List.length_eq_zero_iff.mp (by omega)
        subst hka
        have hea : ea = [] := List.length_eq_zero_iff.mp l1.symm
        subst hea
        cases eb with
        | nil => rw [V.sz] at hz1; simp at hz1
        | cons e eb =>
        cases kb with
        | nil => simp at l2
        | cons r kb =>
        repeat walk_at "m.s"
        refine c_tm (ea := []) (ka := []) (by walk_at "m.C") V l1 (by simpa using l2) hn h3 h5 hz hc (hR r kb rfl) hi (by walk_at "m.dp") fun h2 tk2 news2 kid' q' ea' eb' ka' c' kb' C2 B _ => ?_
        repeat walk_at "m.s"
        walk_at "m.end"
        exact fun Cc => k _ _ _ _ _ _ _ _ _ _ Cc B
      · rcases List.eq_nil_or_concat ka with rfl | ⟨ka, l, rfl⟩
        · simp at hi; omega
        rw [List.concat_eq_append] at *
        rcases List.eq_nil_or_concat ea with rfl | ⟨ea, e, rfl⟩
        · simp at l1
        rw [List.concat_eq_append] at *
        have l1' : ka.length = ea.length := by simpa using l1
        have hkl : i = (ka.length : Int) + 1 := by rw [hi]; simp
        rw [List.append_assoc, List.singleton_append] at V
        have V' := V
        rw [List.append_assoc, List.singleton_append] at V'
        rw [List.append_assoc, List.append_assoc, List.singleton_append, List.singleton_append] at Hk
        have hlz := V'.kz l (by simp)
        obtain ⟨ql, les, lkids, VL⟩ := TreeIn.view hlz.2.2
        have Hl := VL.nd
        have hg : (refs (ka ++ l :: c :: kb))[(i - 1).toNat]? = some (.ref l.a) := by
          rw [show i - 1 = ((ka.length : Nat) : Int) by omega]; exact refs_at rfl
        have hcr : ql.cr = q.cr := VL.cr.trans V.cr.symm
        have zz := V'.sizes h5 hz
        have hcl : (refs (ka ++ l :: c :: kb)).length ≤ 100 := zz.2.2.2.2
        repeat walk_at "m.s"
        refine c_tm (by walk_at "m.C") V' l1' l2 hn h3 h5 hz (hL ka l rfl) hc (by omega) (by walk_at "m.dp") fun h2 tk2 news2 kid' q' ea' eb' ka' c' kb' C2 _ B => ?_
        repeat walk_at "m.s"
        walk_at "m.end"
        exact fun Cc => k _ _ _ _ _ _ _ _ _ _ Cc B
    · repeat walk_at "m.s"
      walk_at "m.end"
      exact fun Cc => k _ _ _ _ _ _ _ _ _ _ Cc B
  · repeat walk_at "m.s"
    walk_at "m.end"
    exact fun Cc => k _ _ _ _ _ _ _ _ _ _ Cc B
end

-- T10
theorem s_cut {M : Model} {A : Around} {env : Env} {E : Value → Shared → Prop} {st : Stmt} {rest : List Stmt} {Q : Flow → Shared → Prop} {s : Shared} (I : Shared → Prop)
    (h1 : wpAny M A (exec st env) (fun fl s' => match fl with | .next => I s' | fl => Q fl s') E s) (h2 : ∀ s', I s' → wpAny M A (execs rest env) Q E s') : wpAny M A (execs (st :: rest) env) Q E s :=
  s_execs (wpAny_mono h1 (fun fl s' z => by cases fl <;> first | exact h2 s' z | exact z) fun _ _ x => x)
local macro_rules | `(tactic| walk_at "m.cmp") => `(tactic| first | with_reducible refine is_bytes_none ?_ | with_reducible refine isnot_bytes_none ?_)
local macro_rules | `(tactic| walk_at "m.toIf") => `(tactic| repeat ((fail_if_success (with_reducible show wpAny _ _ (execs (Stmt.If _ _ _ _ :: _) _) _ _ _)); walk_at "m.s"))
theorem del_succ {L R : List Int} {k0 k1 : Int} (h : Inc (L ++ k0 :: k1 :: R)) : repI k0 k1 (delI k1 (L ++ k0 :: k1 :: R)) = delI k0 (L ++ k0 :: k1 :: R) ∧ k0 ∈ delI k1 (L ++ k0 :: k1 :: R) := by
  have h' : Inc (L ++ ([k0, k1] ++ R)) := h
  obtain ⟨_, a, _, b, c, d⟩ := h'.parts
  have k01 : k0 < k1 := by simpa using a
  have e1 := delI_mid (L := L) (C := [k0, k1]) (R := R) (k := k1) (fun x hx => by have := b x hx k1 (by simp); omega) (fun x hx => by have := d k1 (by simp) x hx; omega)
  have e2 := delI_mid (L := L) (C := [k0, k1]) (R := R) (k := k0) (fun x hx => by have := b x hx k0 (by simp); omega) (fun x hx => by have := d k0 (by simp) x hx; omega)
  have f1 : delI k1 [k0, k1] = [k0] := by unfold delI; rw [List.filter_cons_of_pos (by simp; omega), List.filter_cons_of_neg (by simp)]; rfl
  have f2 : delI k0 [k0, k1] = [k1] := by unfold delI; rw [List.filter_cons_of_neg (by simp), List.filter_cons_of_pos (by simp; omega)]; rfl
  rw [f1] at e1; rw [f2] at e2
  have e1' : delI k1 (L ++ k0 :: k1 :: R) = L ++ ([k0] ++ R) := e1
  have e2' : delI k0 (L ++ k0 :: k1 :: R) = L ++ ([k1] ++ R) := e2
  rw [e1', e2', repI_mid (fun x hx => by have := b x hx k0 (by simp); omega) (fun x hx => by have := d k0 (by simp) x hx; omega)]
  exact ⟨by simp [repI], by simp⟩
def DelOk (hh : Nat) : Prop := ∀ {w : World} {f : Fm} {m : PySem.Str → Option Value} {news : List (Addr × Obj)} {h : Heap} {E : Value → Shared → Prop} {g : Array GenState} {d : Drawn} {tk : Nat} {o : OsState} {Q : Value → Shared → Prop} {cr : Addr} {T : Nat} {kid : Kid} {kb : Array UInt8} {tb : Tok} {k0 : Int} {pv : Value},
  Cx w f m news h → TreeIn w.params cr T news hh kid → Inc kid.ks → kid.fp.Nodup → Enc kb k0 → 3 ≤ T → T ≤ 5 → kid.sz ≤ 2 * T - 1 → (pv = .none ∨ ∃ p, pv = .ref p ∧ T ≤ kid.sz) → 1 ≤ kid.sz → k0 ∈ kid.ks → f.dp + hh + 12 < 1000 →
  (∀ h' tk' news' kid' e, Cx w f m news' h' → TreeIn w.params cr T news' hh kid' → kid'.a = kid.a → kid'.ks = delI k0 kid.ks → kid.sz ≤ kid'.sz + 1 → kid'.sz ≤ kid.sz → Ch news kid.fp news' kid'.fp → kid'.fp.Nodup → IsE w.params news' e → e.2 = k0 → Q (.ref e.1) ⟨h', g, d, tk', o⟩) →
  wpAny (MM w) (AR f) (call (.ref 393) [.ref kid.a, .bytes kb tb, pv, .none]) Q E ⟨h, g, d, tk, o⟩
/-- at the child to go down to -/
def DelI (w : World) (fr : Fm) (g : Array GenState) (d : Drawn) (o : OsState) (news : List (Addr × Obj)) (kid : Kid) (kb0 : Array UInt8) (tb0 : Tok) (k0 : Int) (es : List (Addr × Int)) (kids : List Kid) (s : Shared) : Prop :=
  ∃ h1 tk1 m1 news1 kb1 tb1 k1 ea eb ka c kb ok u, s = ⟨h1, g, d, tk1, o⟩ ∧ Cx w fr m1 news1 h1 ∧ Binds m1 [("self", .ref kid.a), ("key", .bytes kb1 tb1), ("exact", .none), ("original_key", ok), ("i", .int (ea.length : Nat) u)] ∧ (∀ p ∈ news, p ∈ news1) ∧
    es = ea ++ eb ∧ kids = ka ++ c :: kb ∧ ka.length = ea.length ∧ kb.length = eb.length ∧ Enc kb1 k1 ∧ k1 ∈ c.ks ∧ ((ok = .none ∧ k1 = k0) ∨ (ok = .bytes kb0 tb0 ∧ ∃ L R, kid.ks = L ++ k0 :: k1 :: R))
/-- .. which is not minimal -/
def DelJ (w : World) (fr : Fm) (g : Array GenState) (d : Drawn) (o : OsState) (cr : Addr) (T hh : Nat) (news : List (Addr × Obj)) (kid : Kid) (kb0 : Array UInt8) (tb0 : Tok) (k0 : Int) (s : Shared) : Prop :=
  ∃ h1 tk1 m1 news1 kid1 q1 kb1 tb1 k1 ea eb ka c kb ok, s = ⟨h1, g, d, tk1, o⟩ ∧ Cx w fr m1 news1 h1 ∧ Binds m1 [("self", .ref kid.a), ("key", .bytes kb1 tb1), ("exact", .none), ("original_key", ok), ("child", .ref c.a)] ∧
    VW w.params cr T news1 (hh + 1) kid1 q1 (ea ++ eb) (ka ++ c :: kb) ∧ ka.length = ea.length ∧ kb.length = eb.length ∧ kid1.a = kid.a ∧ kid1.ks = kid.ks ∧ kid.sz ≤ kid1.sz + 1 ∧ kid1.sz ≤ kid.sz ∧ Ch news kid.fp news1 kid1.fp ∧ kid1.fp.Nodup ∧ T ≤ c.sz ∧
    Enc kb1 k1 ∧ k1 ∈ c.ks ∧ ((ok = .none ∧ k1 = k0) ∨ (ok = .bytes kb0 tb0 ∧ ∃ L R, kid.ks = L ++ k0 :: k1 :: R))
theorem c_del (hh : Nat) (IH : ∀ c, hh = c + 1 → DelOk c) : DelOk hh := by
  intro w f m news h E g d tk o Q cr T kid kb tb k0 pv C HT hi hn hk h3 h5 hz hp hz1 hm hd k
  obtain ⟨q, es, kids, V⟩ := HT.view
  have Hn := V.nd
  have hsz := V.sz
  have hqt := V.t
  have hvl : (vals es).length = es.length := vals_length _
  have hE := V.el
  have zz := V.sizes h5 hz
  have hA : Asc es := Inc.keys (V.ks ▸ hi)
  refine' enter (binds := [("self", .ref kid.a), ("key", .bytes kb tb), ("parent", pv), ("exact", .none)]) C ?k6 ?k7 ?kd ?k9 ?kB ?_ ?c2 ?c3 ?c4 ?c5
  (case k6 => k_is); (case k7 => k_is); (case kd => omega); (case k9 => exact rfl); (case kB => exact rfl); (case c2 => exact rfl); (case c3 => exact rfl); (case c4 => exact rfl); (case c5 => decide)
  intro h₀' L' h' C'
  clear C
  refine s_cut (fun s' => ∃ h1 tk1 m1, s' = ⟨h1, g, d, tk1, o⟩ ∧ Cx w C'.fr m1 news h1 ∧ Binds m1 [("self", .ref kid.a), ("key", .bytes kb tb), ("exact", .none)]) ?_ ?_
  · rcases hp with rfl | ⟨p, rfl, hpz⟩
    · repeat walk_at "m.s"
      exact ⟨_, _, _, rfl, by assumption, rfl, rfl, rfl, trivial⟩
    · repeat walk_at "m.s"
      exact ⟨_, _, _, rfl, by assumption, rfl, rfl, rfl, trivial⟩
  rintro s ⟨h1, tk1, m1, rfl, C1, eB⟩
  replace C1 := C1.pins eB
  walk_at "m.toIf"
  have hF := ‹Found _ _ _ _›
  refine s_cut (DelI w C'.fr g d o news kid kb tb k0 es kids) ?_ ?_
  · repeat walk_at "m.s"
    refine ifB_split (fun hq => ?_) (fun hq => ?_)
    · subst hq
      obtain ⟨ea, e, eb, rfl, rfl, he⟩ := hF.yes
      repeat walk_at "m.s"
      refine ifB_split (fun hlf => ?_) (fun hlf => ?_)
      · have h0 : hh = 0 := by simpa using hlf
        have hkl := V.kl hlf
        subst hkl
        have sb := Cx.top ‹Cx w _ _ (_ :: news) _›
        repeat walk_at "m.s"
        refine n_popAtE (p := vals ea) (y := .ref e.1) (r := vals eb) (by walk_at "m.C") (by have := (View.mono V sb).nd; rw [vals_append, vals_cons] at this; exact this) (nd_ne (V.fp ▸ hn)) (by rw [vals_length]) (by have := zz.2.2.2.1; rw [vals_append, vals_cons] at this; omega) ?_
        intro h2 news2 q2 s2 C2 H2 ch2
        rw [← vals_append] at H2
        have c2 := (Ch.refl (fp := kid.fp)).sub sb |>.step ch2 (fun x hx => by rw [List.mem_singleton.mp hx, V.fp]; simp)
        have hks : kid.ks = keys ea ++ k0 :: keys eb := by rw [V.ks, show kss [] = [] from rfl, inter_nil, keys_append, keys_cons, he]
        repeat walk_at "m.s"
        walk_at "m.end"
        refine fun Cc => k _ _ _ ⟨kid.a, delI k0 kid.ks, kid.fp, kid.sz - 1⟩ e Cc (View.tree (q := q2) (es := ea ++ eb) (kids := []) ⟨H2, s2.cr.trans V.cr, s2.t.trans V.t, fun x hx => (hE x (by rcases List.mem_append.mp hx with hx | hx <;> simp [hx])).ch c2, ?_, ?_, ?_, fun _ => rfl, fun z => by simp [h0] at z, fun x hx => nomatch hx⟩) rfl rfl (by show kid.sz ≤ kid.sz - 1 + 1; omega) (by show kid.sz - 1 ≤ kid.sz; omega) c2 hn ((hE e (by simp)).ch c2) he
        · show kid.sz - 1 = _
          rw [hsz]; simp
        · show delI k0 kid.ks = _
          rw [show kss [] = [] from rfl, inter_nil, keys_append, hks]
          have hi2 : Inc (keys ea ++ ([k0] ++ keys eb)) := hks ▸ hi
          obtain ⟨_, _, _, p1, _, p2⟩ := hi2.parts
          have := delI_mid (L := keys ea) (C := [k0]) (R := keys eb) (k := k0) (fun x hx => by have := p1 x hx k0 (by simp); omega) (fun x hx => by have := p2 k0 (by simp) x hx; omega)
          simpa [delI] using this
        · show kid.fp = _
          rw [V.fp, s2.fp]
      · have h0 : hh ≠ 0 := by simpa using hlf
        obtain ⟨c, rfl⟩ := Nat.exists_eq_succ_of_ne_zero h0
        have e1 : ea ++ e :: eb = (ea ++ [e]) ++ eb := by simp
        have hkl := V.kl' hlf
        rw [e1] at hkl
        obtain ⟨ka, y, kb', rfl, l1, l2⟩ := kids_at hkl
        have hy := V.kz y (by simp)
        obtain ⟨yq, yes, ykids, yV⟩ := TreeIn.view hy.2.2
        have Hy := yV.nd
        have hg : (refs (ka ++ y :: kb'))[((ea.length : Nat) + 1 : Int).toNat]? = some (.ref y.a) := by
          rw [show ((ea.length : Nat) + 1 : Int) = ((ea.length + 1 : Nat) : Int) by omega]; exact refs_at (by simpa using l1)
        have sb := Cx.top ‹Cx w _ _ (_ :: news) _›
        have Hf : NodeIn w.params news kid.a q false (vals (ea ++ e :: eb)) (refs (ka ++ y :: kb')) := Hn
        have hcl := zz.2.2.2.2
        clear Hn
        repeat walk_at "m.s"
        walk_at "m.getC"
        repeat walk_at "m.s"
        refine minOk c (by walk_at "m.C") (TreeIn.mono hy.2.2 sb) h3 h5 (by omega) hy.2.1 (by walk_at "m.dp") ?_
        intro h2 tk2 e' C2 hE' hr
        obtain ⟨r, hr⟩ := hr
        obtain ⟨b', tb', hB', hb'⟩ := hE'
        repeat walk_at "m.s"
        have hks : kid.ks = inter (kss ka) (keys (ea ++ [e])) ++ (y.ks ++ tailI (kss kb') (keys eb)) := by rw [V.ks, e1, ks_at l1 l2]
        refine ⟨_, _, _, _, b', tb', e'.2, ea ++ [e], eb, ka, y, kb', .bytes kb tb, _, rfl, by assumption, ⟨rfl, rfl, rfl, rfl, by rw [show (((ea ++ [e]).length : Nat) : Int) = (ea.length : Int) + 1 by simp]; rfl, trivial⟩, sb, e1, rfl, l1, l2, hb', by rw [hr]; simp, .inr ⟨rfl, ?_⟩⟩
        rcases List.eq_nil_or_concat ka with rfl | ⟨ka, z, rfl⟩
        · simp at l1
        rw [List.concat_eq_append] at *
        have l1' : ka.length = ea.length := by simpa using l1
        refine ⟨inter (kss ka) (keys ea) ++ z.ks, r ++ tailI (kss kb') (keys eb), ?_⟩
        rw [hks, kss_append, keys_append, inter_split _ _ _ _ (by rw [kss_length, keys_length, l1']), hr]
        show _ ++ (z.ks ++ e.2 :: inter [] []) ++ _ = _
        rw [inter_nil, he]; simp
    · subst hq
      obtain ⟨ea, eb, rfl, rfl, g1, g2⟩ := hF.no
      have h0 : decide (hh = 0) = false := by
        cases hlf : decide (hh = 0) with
        | false => rfl
        | true =>
          exfalso
          rw [V.ks, V.kl hlf, show kss [] = [] from rfl, inter_nil] at hm
          obtain ⟨x, hx, rfl⟩ := List.mem_map.mp hm
          rcases List.mem_append.mp hx with hx | hx
          · have := g1 x hx; omega
          · have := g2 x hx; omega
      obtain ⟨ka, y, kb', rfl, l1, l2⟩ := kids_at (V.kl' h0)
      have cut := cut_at V.ks hi l1 l2 g1 g2
      have sb := Cx.top ‹Cx w _ _ (_ :: news) _›
      repeat walk_at "m.s"
      exact ⟨_, _, _, _, kb, tb, k0, ea, eb, ka, y, kb', .none, _, rfl, by assumption, ⟨rfl, rfl, rfl, rfl, rfl, trivial⟩, sb, rfl, rfl, l1, l2, hk, cut.mem.mp hm, .inl ⟨rfl, rfl⟩⟩
  clear C1 hF
  rintro s ⟨h1, tk1, m1, news1, kb1, tb1, k1, ea, eb, ka, c, kb', ok, u, rfl, C1, eB, sb, rfl, rfl, l1, l2, hk1, hkc, hok⟩
  replace C1 := C1.pins eB
  have h0 : hh ≠ 0 := fun z => by have := V.kl (by simpa using z); simp at this
  obtain ⟨hc, rfl⟩ := Nat.exists_eq_succ_of_ne_zero h0
  have V1 := View.mono V sb
  have Hf : NodeIn w.params news1 kid.a q false (vals (ea ++ eb)) (refs (ka ++ c :: kb')) := V1.nd
  have hy := V1.kz c (by simp)
  obtain ⟨yq, yes, ykids, yV⟩ := TreeIn.view hy.2.2
  have Hy := yV.nd
  have hyt := yV.t
  have hys := yV.sz
  have hyl : (vals yes).length = yes.length := vals_length _
  have hg := refs_at (kb := kb') (c := c) l1
  have hcr : yq.cr = q.cr := yV.cr.trans V.cr.symm
  have hcl := zz.2.2.2.2
  clear Hn
  walk_at "m.toIf"
  walk_at "m.s"
  walk_at "m.toIf"
  refine s_cut (DelJ w C'.fr g d o cr T hc news kid kb tb k0) ?_ ?_
  · repeat walk_at "m.s"
    refine ifB_dec (fun hmn => ?_) (fun hmn => ?_)
    · repeat walk_at "m.s"
      refine c_balance (by walk_at "m.C") V1 l1 l2 hn h3 h5 hz hz1 (by omega) (by omega) (by walk_at "m.dp") ?_
      intro h2 tk2 news2 kid2 q2 ea2 eb2 ka2 c2 kb2 C2 B
      have V2 := B.v
      have Hn2 := V2.nd
      rw [B.a] at Hn2
      have z2 := B.z2
      have hz2 : kid2.sz ≤ 2 * T - 1 := by omega
      have zz2 := V2.sizes h5 hz2
      have hE2 := V2.el
      have hi2 : Inc kid2.ks := B.ks ▸ hi
      have hA2 : Asc (ea2 ++ eb2) := Inc.keys (V2.ks ▸ hi2)
      have hy2 := V2.kz c2 (by simp)
      obtain ⟨cq, ces, ckids, cV⟩ := TreeIn.view hy2.2.2
      have Hc2 := cV.nd
      have hct := cV.t
      have hcs := cV.sz
      have hcvl : (vals ces).length = ces.length := vals_length _
      have z3 := B.z3
      have hk2 : k1 ∈ c2.ks := B.sub _ hkc
      have hparts : Inc (inter (kss ka2) (keys ea2) ++ (c2.ks ++ tailI (kss kb2) (keys eb2))) := by rw [← ks_at B.l1 B.l2, ← V2.ks]; exact hi2
      obtain ⟨_, _, _, p1, _, p2⟩ := hparts.parts
      have g1 : ∀ e ∈ ea2, e.2 < k1 := fun e he => p1 _ (inter_mem he) _ hk2
      have g2 : ∀ e ∈ eb2, k1 < e.2 := fun e he => p2 _ hk2 _ (tailI_mem (by rw [kss_length, B.l2]) he)
      have hg2 := refs_at (kb := kb2) (c := c2) B.l1
      have hcl2 := zz2.2.2.2.2
      clear Hf Hy
      repeat walk_at "m.s"
      obtain ⟨hi', he'⟩ := Found.at ‹Found _ _ _ _› g1 g2
      subst hi'; subst he'
      repeat walk_at "m.s"
      walk_at "m.getC"
      repeat walk_at "m.s"
      have sb2 := Cx.top ‹Cx w _ _ (_ :: news2) _›
      exact ⟨_, _, _, _, kid2, q2, kb1, tb1, k1, ea2, eb2, ka2, c2, kb2, ok, rfl, by assumption, ⟨rfl, rfl, rfl, rfl, rfl, trivial⟩, View.mono V2 sb2, B.l1, B.l2, B.a, B.ks, B.z1, B.z2, ((Ch.refl.sub sb).trans B.ch).sub sb2, B.nd, B.z3, hk1, hk2, hok⟩
    · repeat walk_at "m.s"
      exact ⟨_, _, _, _, kid, q, kb1, tb1, k1, ea, eb, ka, c, kb', ok, rfl, by assumption, ⟨rfl, rfl, rfl, rfl, rfl, trivial⟩, V1, l1, l2, rfl, rfl, by omega, by omega, Ch.refl.sub sb, hn, by omega, hk1, hkc, hok⟩
  clear C1 Hf Hy hg hcr hyt hys hyl yV hy V1 hkc hk1 l1 l2 hcl zz hsz hqt hvl hE hA V hok sb eB HT
  rintro s ⟨h1, tk1, m1, news1, kid1, q1, kb1, tb1, k1, ea, eb, ka, c, kb', ok, rfl, C1, eB, V1, l1, l2, ea1, ek1, sz1, sz2, ch1, hn1, cz, hk1, hkc, hok⟩
  replace C1 := C1.pins eB
  have hy := V1.kz c (by simp)
  obtain ⟨yq, yes, ykids, yV⟩ := TreeIn.view hy.2.2
  have Hy := yV.nd
  have hi1 : Inc kid1.ks := ek1 ▸ hi
  have hkat : kid1.ks = inter (kss ka) (keys ea) ++ (c.ks ++ tailI (kss kb') (keys eb)) := by rw [V1.ks, ks_at l1 l2]
  obtain ⟨_, hci, _, p1, _, p2⟩ := (hkat ▸ hi1).parts
  have hcn := (sub_nodup V1.fp hn1).1
  repeat walk_at "m.s"
  refine IH hc rfl (by walk_at "m.C") hy.2.2 hci hcn hk1 h3 h5 hy.2.1 (.inr ⟨kid.a, rfl, cz⟩) (by omega) hkc (by walk_at "m.dp") ?_
  intro h2 tk2 news2 c2 e C2 HT2 ca ck cz1 cz2 cch cn cE ce
  obtain ⟨fp', w1, w2, V2⟩ := V1.turn hn1 cch cn ca HT2 (by omega) (by have := hy.2.1; omega)
  rw [ea1] at V2
  have hks2 : inter (kss (ka ++ c2 :: kb')) (keys (ea ++ eb)) = delI k1 kid.ks := by
    rw [ks_at l1 l2, ck, ← ek1, hkat, delI_mid (fun x hx => by have := p1 x hx k1 hkc; omega) (fun x hx => by have := p2 k1 hkc x hx; omega)]
  rw [hks2] at V2
  rcases hok with ⟨rfl, rfl⟩ | ⟨rfl, L, R, hLR⟩
  · repeat walk_at "m.s"
    walk_at "m.end"
    exact fun Cc => k _ _ _ _ e Cc V2.tree rfl rfl sz1 sz2 (ch1.trans w2) w1 cE ce
  · have Hn2 := V2.nd
    have hds := del_succ (hLR ▸ hi)
    rw [← hLR] at hds
    repeat walk_at "m.s"
    refine nodeOk (hc + 1) (kid := ⟨kid.a, delI k1 kid.ks, fp', kid1.sz⟩) (by walk_at "m.C") V2.tree (List.Pairwise.filter _ hi) w1 hk h3 h5 (by show kid1.sz ≤ _; omega) (by walk_at "m.dp") hds.2 ?_
    intro h3' tk3 news3 D n qn lf xa xe xb cs u C3 sb3 hD HP
    have Hnn := HP.nd
    have hgv := vals_at (ea := xa) (eb := xb) (e := xe)
    have hvz : (vals (xa ++ xe :: xb)).length ≤ 100 := by rw [vals_length]; have := HP.z; omega
    have hvx := HP.z
    clear Hy Hn2
    repeat walk_at "m.s"
    walk_at "m.getV"
    repeat walk_at "m.s"
    refine n_putE (by walk_at "m.C") Hnn HP.ne (by omega) (by rw [vals_length, List.length_append, List.length_cons]; omega) (by omega) ?_
    intro h4 news4 C4 H4 ch4
    rw [Int.toNat_natCast, vals_set] at H4
    repeat walk_at "m.s"
    walk_at "m.end"
    have hput := HP.put e news4 H4 ch4 ((cE.mono sb3).ch ch4)
    refine fun Cc => k _ _ _ _ xe Cc hput rfl ?_ sz1 sz2 ((ch1.trans w2).trans ((Ch.refl.sub sb3).step ch4 fun x hx => List.mem_singleton.mp hx ▸ HP.mem)) w1 (HP.el.ch ch4) HP.e2
    show repI k0 e.2 (delI k1 kid.ks) = _
    rw [ce]; exact hds.1
theorem delOk : ∀ hh, DelOk hh
  | 0 => c_del 0 fun c e => nomatch e
  | h + 1 => c_del (h + 1) fun c e => by cases e; exact delOk h

local macro_rules | `(tactic| walk_at "m.cmp") => `(tactic| first | with_reducible refine is_bytes_none ?_ | with_reducible refine isnot_bytes_none ?_)
local macro_rules | `(tactic| walk_at "m.toIf") => `(tactic| repeat ((fail_if_success (with_reducible show wpAny _ _ (execs (Stmt.If _ _ _ _ :: _) _) _ _ _)); walk_at "m.s"))

-- B1
section
variable {w : World} {f : Fm} {m : PySem.Str → Option Value} {news : List (Addr × Obj)} {h : Heap} {E : Value → Shared → Prop}
  {g : Array GenState} {d : Drawn} {tk : Nat} {o : OsState} {Q : Value → Shared → Prop}
variable {A : Around}
theorem o_get {x Cc dx : Addr} {ee : List DictEntry} {nn : Nat} {name : PySem.Str} {v : Value} {attr : Option Value} {ex : Bool} (C : Cx w f m news h) (hi : (x, instObj Cc dx) ∈ news) (hd : (dx, dictOf ee nn) ∈ news)
    (hg : plainGet (Mine.hd.heap_39 w.params) Cc name = true) (hh : hasDictIn (Mine.hd.heap_39 w.params) Cc = true) (ha : findIn (Mine.hd.heap_39 w.params) (.ref Cc) name = some attr) (hn : noGet (Mine.hd.heap_39 w.params) attr = true) (hl : getL name ee = some (some v)) (hv : handedIn v = true)
    (k : Q v ⟨h, g, d, tk + 1, o⟩) : wpAny (MM w) A (getAttr (.ref x) name ex) Q E ⟨h, g, d, tk, o⟩ :=
  get_own C.F C.X (InstAt.of_news C.N hi hd) hg hh ha hn hl hv k
theorem o_set {x Cc dx : Addr} {ee ee' : List DictEntry} {nn nn' : Nat} {name : PySem.Str} {v : Value} {QU : Unit → Shared → Prop} (C : Cx w f m news h) (hi : (x, instObj Cc dx) ∈ news) (hd : (dx, dictOf ee nn) ∈ news)
    (hs : findIn (Mine.hd.heap_39 w.params) (.ref Cc) "__setattr__" = some (some (.builtin "object.__setattr__"))) (hp : plainOver (Mine.hd.heap_39 w.params) Cc = true) (ht : takerIn (Mine.hd.heap_39 w.params) Cc name = some none) (hh : hasDictIn (Mine.hd.heap_39 w.params) Cc = true) (hl : (getL name ee).isSome = true)
    (e : (putL name (PyData.keyHash w.params name) (.str name (tk + 1)) v ee, putN name ee nn) = (ee', nn')) (hz : ee'.length ≤ 1000) (hf : frz (dictOf ee nn) = false)
    (k : ∀ h' news', Cx w f m news' h' → (x, instObj Cc dx) ∈ news' → (dx, dictOf ee' nn') ∈ news' → Ch news [dx] news' [dx] → QU () ⟨h', g, d, tk + 2, o⟩) : wpAny (MM w) A (setAttr (.ref x) name v) QU E ⟨h, g, d, tk, o⟩ :=
  set_dict C.F C.X (pickN C.N hd) (InstAt.of_news C.N hi hd) rfl hs hp ht hh hl e upd_up hz fun h' F' N' => k h' _ (C.to F' N') (mem_up hi (C.ne hi hd (cls_ne (by simp)))) mem_up_self (Ch.up C hd hf)
theorem o_meth {x Cc dx fa : Addr} {ee : List DictEntry} {nn : Nat} {name : PySem.Str} {pl : Sem Bool} {QM : Value × List Value → Shared → Prop} (C : Cx w f m news h) (hi : (x, instObj Cc dx) ∈ news) (hd : (dx, dictOf ee nn) ∈ news) (hg : plainGet (Mine.hd.heap_39 w.params) Cc name = true)
    (hf : findIn (Mine.hd.heap_39 w.params) (.ref Cc) name = some (some (.ref fa))) (ht : isFn (Mine.hd.heap_39 w.params) (.ref fa) = true) (hl : getL name ee = some none) (k : QM (.ref fa, [.ref x]) ⟨h, g, d, tk, o⟩) : wpAny (MM w) A (getMethod (.ref x) name pl) QM E ⟨h, g, d, tk, o⟩ :=
  method_inst C.F C.X (InstAt.of_news C.N hi hd) hg hf ht hl k
end
local macro_rules | `(tactic| walk_at "m.attr") => `(tactic| ((with_reducible refine' o_get ?C ?hi ?hd ?hg ?hh ?ha ?hn ?hl ?hv ?_); (case C => walk_at "m.C"); (case hi => walk_at "m.mem"); (case hd => walk_at "m.mem"); (case hg => k_is); (case hh => k_is); (case ha => k_is); (case hn => k_is); (case hl => k_get); (case hv => exact rfl)))
local macro_rules | `(tactic| walk_at "m.oset") => `(tactic| ((with_reducible refine' o_set ?C ?hi ?hd ?hs ?hp ?ht ?hh ?hl ?e ?hz ?hf ?_); (case C => walk_at "m.C"); (case hi => walk_at "m.mem"); (case hd => walk_at "m.mem"); (case hs => k_is); (case hp => k_is); (case ht => k_is); (case hh => k_is); (case hl => k_get); (case e => k_put); (case hz => exact Nat.le_of_ble_eq_true rfl); (case hf => exact rfl)))
local macro_rules | `(tactic| walk_at "m.meth") => `(tactic| ((with_reducible refine' o_meth ?C ?hi ?hd ?hg ?hf ?ht ?hl ?_); (case C => walk_at "m.C"); (case hi => walk_at "m.mem"); (case hd => walk_at "m.mem"); (case hg => k_is); (case hf => k_is); (case ht => k_is); (case hl => k_get)))
/-- a BTreeSet's hidden data -/
structure SK where
  ds : Nat
  cr : Nat
  cl : Nat
  k1 : Nat
  k2 : Nat
  k3 : Nat
  k4 : Nat
  k5 : Nat
  k6 : Nat
  k7 : Nat
  tt : Nat
  ts : Nat
  e : Nat
  t : Int
  sz : Int
  root : Nat
@[reducible] def setD (P : Params) (q : SK) : List DictEntry :=
  [⟨PyData.keyHash P "creator", .str "creator" q.k1, .ref q.cr⟩, ⟨PyData.keyHash P "_immutable", .str "_immutable" q.k2, .bool false⟩, ⟨PyData.keyHash P "cursors", .str "cursors" q.k3, .ref q.cl⟩, ⟨PyData.keyHash P "t", .str "t" q.k4, .int q.t q.tt⟩,
   ⟨PyData.keyHash P "root", .str "root" q.k5, .ref q.root⟩, ⟨PyData.keyHash P "size", .str "size" q.k6, .int q.sz q.ts⟩, ⟨PyData.keyHash P "in_order", .str "in_order" q.k7, .bool false⟩]
structure BSet (P : Params) (T hh : Nat) (news : List (Addr × Obj)) (s : Addr) (q : SK) (kid : Kid) : Prop where
  i : (s, instObj 714 q.ds) ∈ news
  d : (q.ds, dictOf (setD P q) 7) ∈ news
  cl : (q.cl, listOf ([] : List Value).toArray q.e) ∈ news
  tr : TreeIn P q.cr T news hh kid
  t : q.t = T
  root : q.root = kid.a
  inc : Inc kid.ks
  nd : (q.ds :: q.cl :: kid.fp).Nodup
  z1 : kid.sz ≤ 2 * T - 1
  z2 : hh ≠ 0 → 1 ≤ kid.sz
  sz : q.sz = kid.ks.length
section
variable {w : World} {f : Fm} {m : PySem.Str → Option Value} {news : List (Addr × Obj)} {h : Heap} {E : Value → Shared → Prop}
  {g : Array GenState} {d : Drawn} {tk : Nat} {o : OsState} {Q : Value → Shared → Prop}
variable {A : Around} {T hh : Nat} {s : Addr} {q : SK} {kid : Kid} {target : Expr} {body : List Stmt} {pos : Pos}
theorem s_for_list {l n : Nat} {vs : List Value} {QF : Flow → Shared → Prop} (C : Cx w f m news h) (hm : (l, listOf vs.toArray n) ∈ news) (hL : f.env.locals = f.L) (J : Nat → (PySem.Str → Option Value) → List (Addr × Obj) → Prop) (h0 : J 0 m news)
    (step : ∀ i v m₁ news₁ h₁ tk₁ own I, vs[i]? = some v → (∃ it, (I, it) ∈ own ∧ frz it = false) → (∀ p ∈ own, p.1 = I ∨ p.1 = l) → (∀ p ∈ news₁, p.1 ≠ I) → Cx w f m₁ (own ++ news₁) h₁ → J i m₁ news₁ →
      wpAny (MM w) (AR f) (assign target f.env v) (fun _ s₂ => wpAny (MM w) (AR f) (execs body f.env) (fun fl s' => match fl with
        | .ret v => QF (.ret v) s'
        | .brk => QF .next s'
        | _ => ∃ h' tk' m' news', s' = ⟨h', g, d, tk', o⟩ ∧ Cx w f m' news' h' ∧ (∀ p ∈ own, p ∈ news') ∧ J (i + 1) m' (news'.filter fun p => decide (p.1 ≠ I))) (fun _ _ => False) s₂) (fun _ _ => False) ⟨h₁, g, d, tk₁, o⟩)
    (done : ∀ h' tk' m' news', Cx w f m' news' h' → J vs.length m' news' → QF .next ⟨h', g, d, tk', o⟩) :
    wpAny (MM w) (AR f) (pyIter (.ref l)) (fun it s₂ => TurnsAt PR w (AR f) f.h₀ f.env target body QF (fun _ _ => False) it s₂) (fun _ _ => False) ⟨h, g, d, tk, o⟩ := by
  have hax := C.N _ hm
  have hl : h.IsList l vs.toArray := C.isList hm
  have hlt : l < h.objs.size := Heap.lt_size hax.1
  have hne : l ≠ h.objs.size := Nat.ne_of_lt hlt
  refine wpAny_pyIter_list hl ?_
  have hF := C.F.push { cls := .type "list_iterator", data := .fields #[.ref l, .int 0 0] }
  have hn1 : ∀ p ∈ news, p.1 ≠ h.objs.size := fun p hp => Nat.ne_of_lt (Heap.lt_size (C.N p hp).1)
  refine ⟨h.objs.size, [h.objs.size, l], [h.objs.size], vs.toArray.size, _, _, _, m, news, J, rfl, KTurns.ofWalks (Walks.list rfl h.objs.size l hne vs.toArray) fun i v s Q E st q => letGo_listiter st.1 q, ?_, ?_, ?_, ?_, hL ▸ hF, hL ▸ fun p hp => ⟨Heap.get?_push_of_some _ (C.N p hp).1, (C.N p hp).2⟩, h0, ?_, ?_⟩
  · rw [hL]
    intro hI
    rcases List.mem_cons.mp hI with e | hI
    · exact absurd C.F.ns.lt (e ▸ Nat.lt_irrefl _)
    · exact hax.2.1 (List.mem_singleton.mp hI).symm
  · intro b hb
    rw [List.mem_singleton.mp hb]
    exact next_is_new C.F
  · intro p hp hI
    exact hn1 p hp (List.mem_singleton.mp hI)
  · exact ⟨⟨_, Heap.get?_push_size _ rfl, rfl, rfl⟩, hl.at fun o e => Heap.get?_push_of_some _ e⟩
  · intro i v m₁ news₁ h₁ tk₁ own hi hP hJ hw ho ho2 hback st F₁ N₁
    have hv : vs[i]? = some v := by have : vs.toArray[i]? = some v := hP; simpa using this
    obtain ⟨it, hit, hic, hid⟩ := st.1
    have hIo : (h.objs.size, it) ∈ own := hback _ (by simp) (next_is_new C.F) _ hit
    refine wpAny_mono (step i v m₁ news₁ h₁ tk₁ own h.objs.size hv ⟨it, hIo, ?_⟩ (fun p hp => by simpa using ho p hp) (fun p hp e => hw p hp (by simp [e])) (C.to (hL ▸ F₁) (hL ▸ N₁)) hJ) (fun _ s₂ z => wpAny_mono z (fun fl s' y => ?_) fun _ _ x => x) fun _ _ x => x
    · unfold frz; rw [hid]
    · cases fl with
      | ret v => exact y
      | brk => exact y
      | next =>
        obtain ⟨h', tk', m', news', rfl, C', hs, hJ'⟩ := y
        exact ⟨rfl, h', tk', m', _, rfl, hL ▸ C'.F, hL ▸ fun p hp => (List.mem_append.mp hp).elim (fun x => C'.N p (hs p x)) (fun x => C'.N p (List.mem_filter.mp x).1), fun p hp hI => by have := (List.mem_filter.mp hp).2; simp at this hI; exact this hI, hJ'⟩
      | cont =>
        obtain ⟨h', tk', m', news', rfl, C', hs, hJ'⟩ := y
        exact ⟨rfl, h', tk', m', _, rfl, hL ▸ C'.F, hL ▸ fun p hp => (List.mem_append.mp hp).elim (fun x => C'.N p (hs p x)) (fun x => C'.N p (List.mem_filter.mp x).1), fun p hp hI => by have := (List.mem_filter.mp hp).2; simp at this hI; exact this hI, hJ'⟩
  · intro h' tk' m' news' F' N' _ hJ
    exact done h' tk' m' news' (C.to (hL ▸ F') (hL ▸ N')) (by rw [List.size_toArray] at hJ; exact hJ)
end

local macro_rules | `(tactic| walk_at "m.attr") => `(tactic| ((with_reducible refine' o_get ?C ?hi ?hd ?hg ?hh ?ha ?hn ?hl ?hv ?_); (case C => walk_at "m.C"); (case hi => walk_at "m.mem"); (case hd => walk_at "m.mem"); (case hg => k_is); (case hh => k_is); (case ha => k_is); (case hn => k_is); (case hl => k_get); (case hv => exact rfl)))
local macro_rules | `(tactic| walk_at "m.oset") => `(tactic| ((with_reducible refine' o_set ?C ?hi ?hd ?hs ?hp ?ht ?hh ?hl ?e ?hz ?hf ?_); (case C => walk_at "m.C"); (case hi => walk_at "m.mem"); (case hd => walk_at "m.mem"); (case hs => k_is); (case hp => k_is); (case ht => k_is); (case hh => k_is); (case hl => k_get); (case e => k_put); (case hz => exact Nat.le_of_ble_eq_true rfl); (case hf => exact rfl)))
local macro_rules | `(tactic| walk_at "m.meth") => `(tactic| ((with_reducible refine' o_meth ?C ?hi ?hd ?hg ?hf ?ht ?hl ?_); (case C => walk_at "m.C"); (case hi => walk_at "m.mem"); (case hd => walk_at "m.mem"); (case hg => k_is); (case hf => k_is); (case ht => k_is); (case hl => k_get)))

-- B2
section
variable {w : World} {f : Fm} {m : PySem.Str → Option Value} {news : List (Addr × Obj)} {h : Heap} {E : Value → Shared → Prop}
  {g : Array GenState} {d : Drawn} {tk : Nat} {o : OsState} {Q : Value → Shared → Prop}
variable {A : Around} {T hh : Nat} {s : Addr} {q : SK} {kid : Kid} {target : Expr} {body : List Stmt} {pos : Pos} {e0 : Addr × Int} {t : Tok}
theorem s_for {iter : Expr} {QF : Flow → Shared → Prop} (C : Cx w f m news h) (hL : f.env.locals = f.L)
    (k : wpAny (MM w) A (eval iter f.env) (fun xv s₁ => wpAny (MM w) A (pyIter xv) (fun it s₂ => TurnsAt PR w A f.h₀ f.env target body QF (fun _ _ => False) it s₂) (fun _ _ => False) s₁) (fun _ _ => False) ⟨h, g, d, tk, o⟩)
    (hs : ∀ x, foldedSetIterable iter f.env x = pure x) : wpAny (MM w) A (exec (.For target iter body [] pos) f.env) QF (fun _ _ => False) ⟨h, g, d, tk, o⟩ :=
  For_turns (hL ▸ C.F) k hs PassesOwn.never
theorem c_park (C : Cx w f m news h) (B : BSet w.params T hh news s q kid) (hd : f.dp < 1000) (k : ∀ h' tk', Cx w f m news h' → Q .none ⟨h', g, d, tk', o⟩) : wpAny (MM w) (AR f) (call (.ref 562) [.ref s]) Q E ⟨h, g, d, tk, o⟩ := by
  have Hi := B.i
  have Hd := B.d
  refine' enter (binds := [("self", .ref s)]) C ?k6 ?k7 ?kd ?k9 ?kB ?_ ?c2 ?c3 ?c4 ?c5
  (case k6 => k_is); (case k7 => k_is); (case kd => omega); (case k9 => exact rfl); (case kB => exact rfl); (case c2 => exact rfl); (case c3 => exact rfl); (case c4 => exact rfl); (case c5 => decide)
  intro h₀' L' h' C'
  clear C
  repeat walk_at "m.s"
  refine s_for (f := C'.fr) (by walk_at "m.C") rfl ?_ (fun _ => rfl)
  repeat walk_at "m.s"
  refine s_for_list (vs := []) (by walk_at "m.C") B.cl rfl (fun _ _ news' => news' = news) rfl (fun i v m₁ news₁ h₁ tk₁ own I hv => by simp at hv) ?_
  rintro h' tk' m' news' C1 rfl
  repeat walk_at "m.s"
  walk_at "m.end"
  exact fun Cc => k _ _ Cc
end

-- B3
section
variable {w : World} {f : Fm} {m m' : PySem.Str → Option Value} {news news' : List (Addr × Obj)} {h h' : Heap} {E : Value → Shared → Prop}
  {g : Array GenState} {d : Drawn} {tk : Nat} {o : OsState}
theorem enter_codeB {R : Result → Shared → Prop} {name qual : PySem.Str} {params : Arguments} {body : List Stmt} {scope : Scope} {dV kV doc pm cdv ct oc : Value} {an od : Option Addr} {osl : Array (Option Value)}
    {fa : Addr} {args : Args} {un : Nat} {binds : List (PySem.Str × Value)} (C : Cx w f m news h)
    (ho : (Mine.hd.heap_39 w.params).lookup fa = some ⟨oc, od, .func (fnOf name qual params body scope dV kV doc pm an cdv ct), osl⟩) (hcd : codeIn (Mine.hd.heap_39 w.params) cdv qual = true) {dp : Nat} (hroom : dp < 1000) (hun : un ≤ 5 * dp + 50)
    (hbind : BindsTo ⟨h, g, d, tk, o⟩ (fnOf name qual params body scope dV kV doc pm an cdv ct) args binds)
    (hloc : (binds.all fun x => decide (scope.names.lookup x.1 = some .local)) = true)
    (hb : ∀ h₀' L' h', Cx w ⟨envOf qual scope L' fa cdv, f.env :: f.outer, h₀', L', dp + 1, un + 3, f.gd⟩ (fun y => binds.reverse.lookup y) news h' →
      wpAny (MM w) (AR ⟨envOf qual scope L' fa cdv, f.env :: f.outer, h₀', L', dp + 1, un + 3, f.gd⟩) (execs body (envOf qual scope L' fa cdv))
        (Lv w f m ⟨envOf qual scope L' fa cdv, f.env :: f.outer, h₀', L', dp + 1, un + 3, f.gd⟩ g d o fun v s' => R (.ok (.ret v)) s') (fun _ _ => False) ⟨h', g, d, tk + binds.length, o⟩)
    (hco : scope.isCoroutine = false) (hgen : scope.isGenerator = false) (hk : scope.kind = .function) (hcell : ∀ x ∈ scope.names, x.2 ≠ .cell) :
    codeAny (MM w) { handled := none, depth := dp, frames := some (f.env :: f.outer), guards := f.gd, units := un } (.call (.ref fa) args) R ⟨h, g, d, tk, o⟩ := by
  obtain ⟨⟨A₀, base, B⟩, F, X, N, ⟨p, lo, me, mg, mb, T⟩, hf, hke, hu⟩ := C
  refine code_def B F X N T rfl hf hke ho hcd hroom hbind (locs hloc) (fun g' L' h₁ FG F' N' B' X' T' => ?_) hco hgen hk hcell
  refine wpAny_mono (hb g' L' h₁ ⟨⟨_, _, B'⟩, F', X', N', ⟨p, lo, me, mg, mb, T'⟩, rfl, hk, by show un + 3 ≤ 5 * (dp + 1) + 50; omega⟩) (fun fl s' hl => ?_) fun _ _ x => x.elim
  obtain ⟨h', tk', m', news', rfl, C', k⟩ := hl
  exact leaveK_ C'.F C'.N fun F₂ N₂ => k ⟨⟨_, _, B⟩, F₂, X, N₂, ⟨p, lo, me, mg, mb, T⟩, hf, hke, hu⟩

theorem enterB {Q : Value → Shared → Prop} {name qual : PySem.Str} {params : Arguments} {body : List Stmt} {scope : Scope} {dV kV doc pm cdv ct oc : Value} {an od : Option Addr} {osl : Array (Option Value)}
    {fa : Addr} {args : List Value} {binds : List (PySem.Str × Value)} (C : Cx w f m news h)
    (ho : (Mine.hd.heap_39 w.params).lookup fa = some ⟨oc, od, .func (fnOf name qual params body scope dV kV doc pm an cdv ct), osl⟩) (hcd : codeIn (Mine.hd.heap_39 w.params) cdv qual = true) (hroom : f.dp < 1000)
    (hbind : BindsTo ⟨h, g, d, tk, o⟩ (fnOf name qual params body scope dV kV doc pm an cdv ct) ⟨args, []⟩ binds)
    (hloc : (binds.all fun x => decide (scope.names.lookup x.1 = some .local)) = true)
    (hb : ∀ h₀' L' h', Cx w ⟨envOf qual scope L' fa cdv, f.env :: f.outer, h₀', L', f.dp + 1, f.un + 3, f.gd⟩ (fun y => binds.reverse.lookup y) news h' →
      wpAny (MM w) (AR ⟨envOf qual scope L' fa cdv, f.env :: f.outer, h₀', L', f.dp + 1, f.un + 3, f.gd⟩) (execs body (envOf qual scope L' fa cdv))
        (Lv w f m ⟨envOf qual scope L' fa cdv, f.env :: f.outer, h₀', L', f.dp + 1, f.un + 3, f.gd⟩ g d o Q) (fun _ _ => False) ⟨h', g, d, tk + binds.length, o⟩)
    (hco : scope.isCoroutine = false) (hgen : scope.isGenerator = false) (hk : scope.kind = .function) (hcell : ∀ x ∈ scope.names, x.2 ≠ .cell) :
    wpAny (MM w) (AR f) (call (.ref fa) args) Q E ⟨h, g, d, tk, o⟩ :=
  wpAny_call (enter_codeB C ho hcd hroom C.u hbind hloc hb hco hgen hk hcell)
end
section
variable {w : World} {f : Fm} {m : PySem.Str → Option Value} {news : List (Addr × Obj)} {h : Heap} {E : Value → Shared → Prop}
  {g : Array GenState} {d : Drawn} {tk : Nat} {o : OsState} {Q : Value → Shared → Prop}
variable {A : Around} {T hh : Nat} {s : Addr} {q : SK} {kid : Kid} {target : Expr} {body : List Stmt} {pos : Pos} {e0 : Addr × Int} {t : Tok} {kb : Array UInt8} {tb : Tok} {k0 : Int}
abbrev SK.fp (q : SK) (kid : Kid) : List Addr := q.ds :: q.cl :: kid.fp
theorem length_insI {l : List Int} {k : Int} (h : Inc l) (hk : k ∉ l) : (insI k l).length = l.length + 1 := by
  unfold insI
  induction l with
  | nil => rfl
  | cons a l ih =>
    obtain ⟨h1, h2⟩ := List.pairwise_cons.mp h
    have ih := ih h2 (fun z => hk (.tail _ z))
    have hak : a ≠ k := fun e => hk (e ▸ .head _)
    simp only [List.length_append, List.length_cons, List.filter_cons] at ih ⊢
    by_cases hlt : a < k
    · simp [hlt, show ¬ k < a by omega]; omega
    · simp [hlt, show k < a by omega]; omega
theorem length_delI {l : List Int} {k : Int} (h : Inc l) (hk : k ∈ l) : (delI k l).length + 1 = l.length := by
  obtain ⟨L, R, rfl⟩ := List.append_of_mem hk
  obtain ⟨a, b, c⟩ := List.pairwise_append.mp h
  have e := delI_mid (L := L) (C := [k]) (R := R) (k := k) (fun x hx => by have := c x hx k (by simp); omega) (fun x hx => by have := (List.pairwise_cons.mp b).1 x hx; omega)
  have e' : delI k (L ++ k :: R) = L ++ (delI k [k] ++ R) := e
  rw [e']; simp [delI]; omega
theorem inc_insI {l : List Int} {k : Int} (h : Inc l) : Inc (insI k l) := by
  unfold insI
  refine List.pairwise_append.mpr ⟨h.filter _, List.pairwise_cons.mpr ⟨fun x hx => by simpa using (List.mem_filter.mp hx).2, h.filter _⟩, fun x hx y hy => ?_⟩
  have hx' : x < k := by simpa using (List.mem_filter.mp hx).2
  rcases List.mem_cons.mp hy with rfl | hy
  · exact hx'
  · have : k < y := by simpa using (List.mem_filter.mp hy).2
    omega
theorem BSet.root' (B : BSet w.params T hh news s q kid) : ∃ rq es kids, NodeIn w.params news q.root rq (decide (hh = 0)) (vals es) (refs kids) ∧ rq.cr = q.cr ∧ rq.t = q.t ∧ es.length = kid.sz ∧ VW w.params q.cr T news hh kid rq es kids := by
  obtain ⟨rq, es, kids, V⟩ := B.tr.view
  exact ⟨rq, es, kids, B.root ▸ V.nd, V.cr, V.t.trans B.t.symm, V.sz.symm, V⟩
theorem BSet.mono {news' : List (Addr × Obj)} (B : BSet w.params T hh news s q kid) (k : ∀ p ∈ news, p ∈ news') : BSet w.params T hh news' s q kid :=
  ⟨k _ B.i, k _ B.d, k _ B.cl, B.tr.mono k, B.t, B.root, B.inc, B.nd, B.z1, B.z2, B.sz⟩
/-- a change of the tree alone -/
theorem BSet.tree {news' : List (Addr × Obj)} {kid' : Kid} {hh' : Nat} (B : BSet w.params T hh news s q kid) (c : Ch news kid.fp news' kid'.fp) (ht : TreeIn w.params q.cr T news' hh' kid') (hn : kid'.fp.Nodup) :
    (s, instObj 714 q.ds) ∈ news' ∧ (q.ds, dictOf (setD w.params q) 7) ∈ news' ∧ (q.cl, listOf ([] : List Value).toArray q.e) ∈ news' ∧ (q.ds :: q.cl :: kid'.fp).Nodup ∧ Ch news (q.fp kid) news' (q.fp kid') := by
  have nd := B.nd
  simp only [List.nodup_cons, List.mem_cons, not_or] at nd
  obtain ⟨⟨n1, n2⟩, n3, n4⟩ := nd
  have dj := c.disj (R := [q.ds, q.cl]) (fun b hb h => by
    simp only [List.mem_cons, List.not_mem_nil, or_false] at h
    rcases h with rfl | rfl
    · exact n2 hb
    · exact n3 hb) (fun b h => by
    simp only [List.mem_cons, List.not_mem_nil, or_false] at h
    rcases h with rfl | rfl
    · exact ⟨_, B.d⟩
    · exact ⟨_, B.cl⟩)
  refine ⟨c.keepF B.i rfl, c.keep B.d n2, c.keep B.cl n3, ?_, c.weak (fun b hb => by simp [hb]) fun b hb => ?_⟩
  · simp only [List.nodup_cons, List.mem_cons, not_or]
    exact ⟨⟨n1, fun z => dj _ z (by simp)⟩, fun z => dj _ z (by simp), hn⟩
  · simp only [SK.fp, List.mem_cons] at hb ⊢
    rcases hb with h | h | h
    · exact .inr (.inl h)
    · exact .inr (.inr (.inl h))
    · exact .inl h
theorem Ch.grow {n1 n2 n3 : List (Addr × Obj)} {f1 f2 g g' : List Addr} (a : Ch n1 f1 n2 f2) (b : Ch n2 g n3 g') (hg : ∀ x ∈ g, x ∈ f2) : Ch n1 f1 n3 (g' ++ f2) :=
  a.trans (b.weak hg fun _ h => List.mem_append.mp h)
theorem nd_root {ds cl dn le lc' : Nat} {X : List Addr} (h1 : ds ≠ cl) (h2 : dn ≠ le) (h3 : lc' ≠ le) (h4 : lc' ≠ dn) (h5 : ds ≠ dn ∧ ds ≠ le ∧ ds ≠ lc') (h6 : cl ≠ dn ∧ cl ≠ le ∧ cl ≠ lc') (hX : X.Nodup) (x1 : dn ∉ X) (x2 : le ∉ X) (x3 : lc' ∉ X) (x4 : ds ∉ X) (x5 : cl ∉ X) :
    (ds :: cl :: ([dn, le, lc'] ++ X)).Nodup := by
  simp only [List.cons_append, List.nil_append, List.nodup_cons, List.mem_cons, not_or]
  exact ⟨⟨h1, h5.1, h5.2.1, h5.2.2, x4⟩, ⟨h6.1, h6.2.1, h6.2.2, x5⟩, ⟨h2, h4.symm, x1⟩, ⟨h3.symm, x2⟩, x3, hX⟩
def AddI (w : World) (fr : Fm) (g : Array GenState) (d : Drawn) (o : OsState) (T hh : Nat) (news : List (Addr × Obj)) (s : Addr) (q : SK) (kid : Kid) (e0 : Addr × Int) (s' : Shared) : Prop :=
  ∃ h1 tk1 m1 news1 q1 kid1 hh1, s' = ⟨h1, g, d, tk1, o⟩ ∧ Cx w fr m1 news1 h1 ∧ Binds m1 [("self", .ref s), ("elt", .ref e0.1), ("in_order", .bool false)] ∧ BSet w.params T hh1 news1 s q1 kid1 ∧ kid1.ks = kid.ks ∧ kid1.sz < 2 * T - 1 ∧ hh1 ≤ hh + 1 ∧
    Ch news (q.fp kid) news1 (q1.fp kid1) ∧ IsE w.params news1 e0
theorem c_insert_element (C : Cx w f m news h) (B : BSet w.params T hh news s q kid) (hE0 : IsE w.params news e0) (h3 : 3 ≤ T) (h5 : T ≤ 5) (hd : f.dp + hh + 12 < 1000)
    (k : ∀ h' tk' news' q' kid' hh' v, Cx w f m news' h' → BSet w.params T hh' news' s q' kid' → hh' ≤ hh + 1 → kid'.ks = insI e0.2 kid.ks → Ch news (q.fp kid) news' (q'.fp kid') → Q v ⟨h', g, d, tk', o⟩) :
    wpAny (MM w) (AR f) (call (.ref 570) [.ref s, .ref e0.1, .bool false]) Q E ⟨h, g, d, tk, o⟩ := by
  have Hi := B.i
  have Hd := B.d
  obtain ⟨rq, es, kids, Hr, hcr, hrt, hez, V⟩ := B.root'
  have hqt := B.t
  have hz1 := B.z1
  have hvl : (vals es).length = es.length := vals_length _
  refine' enterB (binds := [("self", .ref s), ("elt", .ref e0.1), ("in_order", .bool false)]) C ?k6 ?k7 ?kd ?k9 ?kB ?_ ?c2 ?c3 ?c4 ?c5
  (case k6 => k_is); (case k7 => k_is); (case kd => omega); (case k9 => exact binds_K C.KX rfl (by k_is) rfl rfl rfl); (case kB => exact rfl); (case c2 => exact rfl); (case c3 => exact rfl); (case c4 => exact rfl); (case c5 => decide)
  intro h₀' L' h' C'
  clear C
  walk_at "m.toIf"
  refine c_park (by walk_at "m.C") B (by walk_at "m.dp") fun h1 tk1 C1 => ?_
  walk_at "m.toIf"
  walk_at "m.s"
  walk_at "m.toIf"
  refine s_cut (AddI w C'.fr g d o T hh news s q kid e0) ?_ ?_
  · repeat walk_at "m.s"
    refine ifB_dec (fun hmx => ?_) (fun hmx => ?_)
    · repeat walk_at "m.s"
      have nd0 := B.nd
      simp only [List.nodup_cons, List.mem_cons, not_or] at nd0
      obtain ⟨⟨n1, n2⟩, n3, n4⟩ := nd0
      refine c_newnode (by walk_at "m.C") (by omega) (by walk_at "m.dp") ?_
      intro h2 tk2 x xq news2 r1 r2 C2 HX sub fr nd
      have Hi2 := sub _ Hi
      have Hd2 := sub _ Hd
      have Hr2 := Hr.mono sub
      have cells : ∀ b ∈ kid.fp, ∃ y, (b, y) ∈ news := B.tr.has
      have frx : ∀ b ∈ [x, xq.dn, xq.le, xq.lc], b ≠ q.ds ∧ b ≠ q.cl ∧ b ∉ kid.fp := fun b hb => ⟨fun e => fr b hb _ (e ▸ B.d), fun e => fr b hb _ (e ▸ B.cl), fun e => by obtain ⟨y, hy⟩ := cells b e; exact fr b hb y hy⟩
      clear Hi Hd Hr
      repeat walk_at "m.s"
      walk_at "m.oset"
      intro h3' news3 C3 I3 D3 ch3
      have HX3 := HX.ch ch3 (fun z => (frx xq.dn (by simp)).1 (List.mem_singleton.mp z)) (fun z => (frx xq.le (by simp)).1 (List.mem_singleton.mp z)) (fun z => (frx xq.lc (by simp)).1 (List.mem_singleton.mp z))
      have T3 := (B.tr.mono sub).ch ch3 (fun b hb hb' => n2 (List.mem_singleton.mp hb' ▸ hb))
      obtain ⟨rq3, res3, rkids3, rV3⟩ := T3.view
      have Hr3 := rV3.nd
      rw [← B.root] at Hr3
      have c3 := (Ch.refl (fp := q.fp kid)).fresh sub fr |>.step ch3 (by intro b hb; rw [List.mem_singleton.mp hb]; simp)
      have cl3 := ch3.keep (sub _ B.cl) (fun z => n1 (List.mem_singleton.mp z).symm)
      repeat walk_at "m.s"
      have sb := Cx.top ‹Cx w _ _ (_ :: news3) _›
      have lb := ‹∀ p ∈ news3, p.1 < _›
      rw [show q.root = kid.a from B.root]
      refine c_tsplit (by walk_at "m.C") (T3.mono sb) B.inc n4 h3 h5 (by omega) (by walk_at "m.dp") ?_
      intro h4 tk4 news4 l r md D C4 HL HR hM la lz rz hks hD sch snd
      repeat walk_at "m.s"
      refine ⟨⟨Cx.get (by walk_at "m.C") (sch.keep List.mem_cons_self fun hb' => by obtain ⟨y, hy⟩ := T3.has _ hb'; exact Nat.lt_irrefl _ (lb _ hy)), Cx.KX (by walk_at "m.C")⟩, ?_⟩
      have fk : ∀ b ∈ [x, xq.dn, xq.le, xq.lc], b ∉ kid.fp := fun b hb => (frx b hb).2.2
      have HX4 := (HX3.mono sb).ch sch (fk _ (by simp)) (fk _ (by simp)) (fk _ (by simp))
      have D4 := sch.keep (sb _ D3) n2
      have I4 := sch.keepF (sb _ I3) rfl
      have cl4 := sch.keep (sb _ cl3) n3
      have dj := sch.disj (R := [xq.dn, xq.le, xq.lc, q.ds, q.cl]) (fun b hb h => by
        simp only [List.mem_cons, List.not_mem_nil, or_false] at h
        rcases h with rfl | rfl | rfl | rfl | rfl
        · exact fk _ (by simp) hb
        · exact fk _ (by simp) hb
        · exact fk _ (by simp) hb
        · exact n2 hb
        · exact n3 hb) (fun b h => by
        simp only [List.mem_cons, List.not_mem_nil, or_false] at h
        rcases h with rfl | rfl | rfl | rfl | rfl
        · exact ⟨_, sb _ HX3.d⟩
        · exact ⟨_, sb _ HX3.e⟩
        · exact ⟨_, sb _ HX3.c⟩
        · exact ⟨_, sb _ D3⟩
        · exact ⟨_, sb _ cl3⟩)
      have hxl : xq.lc ≠ xq.le := by
        simp only [List.nodup_cons, List.mem_cons, not_or] at nd
        exact fun z => nd.2.2.1.1 z.symm
      have hxd : xq.dn ≠ xq.le := by
        simp only [List.nodup_cons, List.mem_cons, not_or] at nd
        exact nd.2.1.1
      refine c_adopt0 (by walk_at "m.C") HX4 hM (by omega) (by omega) hxl (by walk_at "m.dp") ?_
      intro h5' tk5 news5 xq' C5 e1 e2 e3 e4 fr5 HX5 ch5 hll' hld'
      show wpAny _ _ _ _ _ _
      repeat walk_at "m.s"
      have djx : ∀ b ∈ l.fp ++ r.fp, b ∉ xq.fp := fun b hb h => dj b hb (by simp only [NK.fp, List.mem_cons, List.not_mem_nil, or_false] at h; rcases h with h | h | h <;> simp [h])
      have hkids : ∀ b ∈ l.fp ++ r.fp, ∃ y, (b, y) ∈ news4 := fun b hb => (List.mem_append.mp hb).elim (HL.has b) (HR.has b)
      have x3 : xq'.lc ∉ l.fp ++ r.fp := fun h => by obtain ⟨y, hy⟩ := hkids _ h; exact fr5 y hy
      have qx : q.ds ∉ xq.fp := fun h => by simp only [NK.fp, List.mem_cons, List.not_mem_nil, or_false] at h; rcases h with h | h | h <;> exact (frx _ (by simp)).1 h.symm
      have cx : q.cl ∉ xq.fp := fun h => by simp only [NK.fp, List.mem_cons, List.not_mem_nil, or_false] at h; rcases h with h | h | h <;> exact (frx _ (by simp)).2.1 h.symm
      refine ⟨_, _, _, news5, { q with root := x }, ⟨x, kid.ks, xq'.fp ++ (l.fp ++ r.fp), 1⟩, hh + 1, rfl, by assumption, ⟨rfl, rfl, rfl, trivial⟩, ⟨ch5.keepF I4 rfl, ch5.keep D4 qx, ch5.keep cl4 cx, View.tree (q := xq') (es := [md]) (kids := [l, r]) ⟨HX5, ?_, ?_, fun e he => ?_, rfl, ?_, ?_, fun z => by simp at z, fun _ => rfl, fun y hy => ?_⟩, B.t, rfl, B.inc, ?_, by show 1 ≤ _; omega, fun _ => Nat.le_refl _, B.sz⟩, rfl, by show 1 < _; omega, Nat.le_refl _, ?_, (((hE0.mono sub).ch ch3).mono sb |>.ch sch).ch ch5⟩
      · exact e3.trans r2
      · rw [e4, r1]; exact B.t
      · rw [List.mem_singleton.mp he]; exact hM.ch ch5
      · show kid.ks = l.ks ++ md.2 :: (r.ks ++ inter [] [])
        rw [hks, inter_nil, List.append_nil]
      · show _ = xq'.fp ++ (l.fp ++ (r.fp ++ []))
        rw [List.append_nil]
      · rcases List.mem_cons.mp hy with rfl | hy
        · exact ⟨by omega, by omega, HL.ch ch5 fun b hb => djx b (List.mem_append_left _ hb)⟩
        · rw [List.mem_singleton.mp hy]
          exact ⟨by omega, by omega, HR.ch ch5 fun b hb => djx b (List.mem_append_right _ hb)⟩
      · show (q.ds :: q.cl :: ([xq'.dn, xq'.le, xq'.lc] ++ (l.fp ++ r.fp))).Nodup
        rw [e1, e2] at *
        exact nd_root n1 hxd hll' hld' ⟨fun z => (frx xq.dn (by simp)).1 z.symm, fun z => (frx xq.le (by simp)).1 z.symm, fun z => fr5 _ (z ▸ D4)⟩ ⟨fun z => (frx xq.dn (by simp)).2.1 z.symm, fun z => (frx xq.le (by simp)).2.1 z.symm, fun z => fr5 _ (z ▸ cl4)⟩ snd (fun z => djx _ z (by simp)) (fun z => djx _ z (by simp)) x3 (fun z => dj _ z (by simp)) (fun z => dj _ z (by simp))
      · refine (((c3.sub sb).grow sch fun b hb => ?_).grow ch5 fun b hb => ?_).to fun b hb => ?_
        · simp [hb]
        · simp only [NK.fp, List.mem_cons, List.not_mem_nil, or_false] at hb
          rcases hb with rfl | rfl | rfl <;> simp
        · simp only [SK.fp, List.mem_cons, List.mem_append] at hb ⊢
          rcases hb with h | h | h | h
          · simp [h]
          · simp [h]
          · exact .inl (.inl h)
          · exact .inl (.inr (.inl h))
    · repeat walk_at "m.s"
      exact ⟨_, _, _, news, q, kid, hh, rfl, by assumption, ⟨rfl, rfl, rfl, trivial⟩, B, rfl, by omega, by omega, Ch.refl, hE0⟩
  clear C1 Hr V hcr hrt hez hvl Hi Hd hqt hz1
  rintro s' ⟨h1, tk1, m1, news1, q1, kid1, hh1, rfl, C1, eB, B1, ek1, hz1, hh1', ch1, hE1⟩
  replace C1 := C1.pins eB
  have Hi := B1.i
  have Hd := B1.d
  obtain ⟨rq, es, kids, Hr, hcr, hrt, hez, V⟩ := B1.root'
  repeat walk_at "m.s"
  rw [show q1.root = kid1.a from B1.root]
  have nd1 := B1.nd
  simp only [List.nodup_cons, List.mem_cons, not_or] at nd1
  refine insOk hh1 (kid := kid1) (by walk_at "m.C") B1.tr B1.inc nd1.2.2 hE1 h3 h5 hz1 (by walk_at "m.dp") ?_
  intro h2 tk2 news2 kid2 v C2 HT2 ka2 ks2 sz2 sz2' ch2 nd2 v1 v2
  obtain ⟨B1i, B1d, B1c, B1n, B1ch⟩ := B1.tree ch2 HT2 nd2
  have hks : kid2.ks = insI e0.2 kid.ks := by rw [ks2, ek1]
  have hz2 : hh1 ≠ 0 → 1 ≤ kid2.sz := fun z => Nat.le_trans (B1.z2 z) sz2
  have hi2 : Inc kid2.ks := by rw [ks2]; exact inc_insI B1.inc
  by_cases hm : e0.2 ∈ kid1.ks
  · obtain ⟨r, rfl⟩ := v1 hm
    repeat walk_at "m.s"
    walk_at "m.end"
    refine fun Cc => k _ _ news2 q1 kid2 hh1 _ Cc ⟨B1i, B1d, B1c, HT2, B1.t, B1.root.trans ka2.symm, hi2, B1n, sz2', hz2, ?_⟩ hh1' hks (ch1.trans B1ch)
    rw [B1.sz, ks2, insI_mem B1.inc hm]
  · obtain rfl := v2 hm
    repeat walk_at "m.s"
    walk_at "m.oset"
    intro h4 news4 C4 I4 D4 ch4
    repeat walk_at "m.s"
    walk_at "m.end"
    have nd3 := B1n
    simp only [List.nodup_cons, List.mem_cons, not_or] at nd3
    refine fun Cc => k _ _ news4 { q1 with sz := q1.sz + 1, ts := _ } kid2 hh1 _ Cc ⟨I4, D4, ch4.keep B1c (by rw [List.mem_singleton]; exact fun z => nd3.1.1 z.symm), HT2.ch ch4 (fun b hb hb' => nd3.1.2 (List.mem_singleton.mp hb' ▸ hb)), B1.t, B1.root.trans ka2.symm, hi2, B1n, sz2', hz2, ?_⟩ hh1' hks ((ch1.trans B1ch).step ch4 (by intro b hb; rw [List.mem_singleton.mp hb]; simp))
    show q1.sz + 1 = _
    rw [B1.sz, ks2, length_insI B1.inc hm]; simp
end

-- B4
section
variable {w : World} {f : Fm} {m : PySem.Str → Option Value} {news : List (Addr × Obj)} {h : Heap} {E : Value → Shared → Prop}
  {g : Array GenState} {d : Drawn} {tk : Nat} {o : OsState} {Q : Value → Shared → Prop}
variable {A : Around} {T hh : Nat} {s : Addr} {q : SK} {kid : Kid} {e0 : Addr × Int} {t : Tok} {kb : Array UInt8} {tb : Tok} {k0 : Int}
theorem c_member (C : Cx w f m news h) (hd : f.dp + 1 < 1000) (k : ∀ h' tk' a news', Cx w f m news' h' → EltB w.params news' a kb tb → (∀ p ∈ news, p ∈ news') → Q (.ref a) ⟨h', g, d, tk', o⟩) :
    wpAny (MM w) (AR f) (call (.ref 671) [.bytes kb tb]) Q E ⟨h, g, d, tk, o⟩ := by
  refine' call_cls (K := Mine.hd.heap_39 w.params) C.F C.X C.N ?k4 ?k5 ?k6 ?_
  (case k4 => k_is)
  (case k5 => k_is)
  (case k6 => k_is)
  intro x dx h₁ F₁ N₁ l1 l2
  have C₁ := C.to F₁ N₁
  have hu := C.u
  show codeAny (MM w) { handled := none, depth := f.dp + 1, frames := some (f.env :: f.outer), guards := f.gd, units := f.un + 1 } _ _ ⟨h₁, g, d, tk, o⟩
  refine' enter_code (binds := [("self", .ref x), ("key", .bytes kb tb)]) C₁ ?k6 ?k7 ?kd ?ku ?k9 ?kB ?_ ?c2 ?c3 ?c4 ?c5
  (case k6 => k_is); (case k7 => k_is); (case kd => omega); (case ku => omega); (case k9 => exact rfl); (case kB => exact rfl); (case c2 => exact rfl); (case c3 => exact rfl); (case c4 => exact rfl); (case c5 => decide)
  intro h₀' L' h' C'
  repeat walk_at "m.s"
  walk_at "m.setU"
  repeat walk_at "m.s"
  show Lv _ _ _ _ _ _ _ _ _ _
  refine Lv.intro (by walk_at "m.C") (fun Cc => ⟨rfl, ?_⟩)
  exact k _ _ x _ Cc ⟨dx, _, .head _, .tail _ (.head _)⟩ (fun p hp => .tail _ (.tail _ hp))
theorem c_add (C : Cx w f m news h) (B : BSet w.params T hh news s q kid) (hk : Enc kb k0) (h3 : 3 ≤ T) (h5 : T ≤ 5) (hd : f.dp + hh + 14 < 1000)
    (k : ∀ h' tk' news' q' kid' hh', Cx w f m news' h' → BSet w.params T hh' news' s q' kid' → hh' ≤ hh + 1 → kid'.ks = insI k0 kid.ks → Ch news (q.fp kid) news' (q'.fp kid') → Q .none ⟨h', g, d, tk', o⟩) :
    wpAny (MM w) (AR f) (call (.ref 704) [.ref s, .bytes kb tb]) Q E ⟨h, g, d, tk, o⟩ := by
  refine' enter (binds := [("self", .ref s), ("value", .bytes kb tb)]) C ?k6 ?k7 ?kd ?k9 ?kB ?_ ?c2 ?c3 ?c4 ?c5
  (case k6 => k_is); (case k7 => k_is); (case kd => omega); (case k9 => exact rfl); (case kB => exact rfl); (case c2 => exact rfl); (case c3 => exact rfl); (case c4 => exact rfl); (case c5 => decide)
  intro h₀' L' h' C'
  clear C
  repeat walk_at "m.s"
  refine c_member (by walk_at "m.C") (by walk_at "m.dp") ?_
  intro h2 tk2 a news2 C2 HE sub
  have B2 := B.mono sub
  have Hi := B2.i
  have Hd := B2.d
  repeat walk_at "m.s"
  refine c_insert_element (e0 := (a, k0)) (by walk_at "m.C") B2 ⟨kb, tb, HE, hk⟩ h3 h5 (by walk_at "m.dp") ?_
  intro h3' tk3 news3 q' kid' hh' v C3 B3 hh3 ks3 ch3
  repeat walk_at "m.s"
  walk_at "m.end"
  exact fun Cc => k _ _ _ q' kid' hh' Cc B3 hh3 ks3 ((Ch.refl.sub sub).trans ch3)
theorem c_get_element (C : Cx w f m news h) (B : BSet w.params T hh news s q kid) (hk : Enc kb k0) (h3 : 3 ≤ T) (h5 : T ≤ 5) (hd : f.dp + hh + 14 < 1000)
    (k0' : k0 ∉ kid.ks → ∀ h' tk', Cx w f m news h' → Q .none ⟨h', g, d, tk', o⟩) (k1 : k0 ∈ kid.ks → ∀ h' tk' e, Cx w f m news h' → Q (.ref e) ⟨h', g, d, tk', o⟩) :
    wpAny (MM w) (AR f) (call (.ref 577) [.ref s, .bytes kb tb]) Q E ⟨h, g, d, tk, o⟩ := by
  have Hi := B.i
  have Hd := B.d
  obtain ⟨rq, es, kids, Hr, hcr, hrt, hez, V⟩ := B.root'
  refine' enter (binds := [("self", .ref s), ("key", .bytes kb tb)]) C ?k6 ?k7 ?kd ?k9 ?kB ?_ ?c2 ?c3 ?c4 ?c5
  (case k6 => k_is); (case k7 => k_is); (case kd => omega); (case k9 => exact rfl); (case kB => exact rfl); (case c2 => exact rfl); (case c3 => exact rfl); (case c4 => exact rfl); (case c5 => decide)
  intro h₀' L' h' C'
  clear C
  repeat walk_at "m.s"
  rw [show q.root = kid.a from B.root]
  refine getOk hh (by walk_at "m.C") B.tr B.inc hk h3 h5 B.z1 (by walk_at "m.dp") ?_ ?_
  · intro hn h2 tk2 C2
    repeat walk_at "m.s"
    walk_at "m.end"
    exact fun Cc => k0' hn _ _ Cc
  · intro hn h2 tk2 e C2
    repeat walk_at "m.s"
    walk_at "m.end"
    exact fun Cc => k1 hn _ _ e Cc
theorem c_contains (C : Cx w f m news h) (B : BSet w.params T hh news s q kid) (hk : Enc kb k0) (h3 : 3 ≤ T) (h5 : T ≤ 5) (hd : f.dp + hh + 16 < 1000)
    (k : ∀ h' tk', Cx w f m news h' → Q (.bool (decide (k0 ∈ kid.ks))) ⟨h', g, d, tk', o⟩) :
    wpAny (MM w) (AR f) (call (.ref 697) [.ref s, .bytes kb tb]) Q E ⟨h, g, d, tk, o⟩ := by
  have Hi := B.i
  have Hd := B.d
  refine' enter (binds := [("self", .ref s), ("x", .bytes kb tb)]) C ?k6 ?k7 ?kd ?k9 ?kB ?_ ?c2 ?c3 ?c4 ?c5
  (case k6 => k_is); (case k7 => k_is); (case kd => omega); (case k9 => exact rfl); (case kB => exact rfl); (case c2 => exact rfl); (case c3 => exact rfl); (case c4 => exact rfl); (case c5 => decide)
  intro h₀' L' h' C'
  clear C
  repeat walk_at "m.s"
  refine c_get_element (by walk_at "m.C") B hk h3 h5 (by walk_at "m.dp") ?_ ?_
  · intro hn h2 tk2 C2
    repeat walk_at "m.s"
    walk_at "m.end"
    rw [← decide_eq_false hn]
    exact fun Cc => k _ _ Cc
  · intro hn h2 tk2 e C2
    repeat walk_at "m.s"
    walk_at "m.end"
    rw [← decide_eq_true hn]
    exact fun Cc => k _ _ Cc
theorem c_len (C : Cx w f m news h) (B : BSet w.params T hh news s q kid) (hd : f.dp + 2 < 1000)
    (k : ∀ h' tk' u, Cx w f m news h' → Q (.int kid.ks.length u) ⟨h', g, d, tk', o⟩) :
    wpAny (MM w) (AR f) (call (.ref 605) [.ref s]) Q E ⟨h, g, d, tk, o⟩ := by
  have Hi := B.i
  have Hd := B.d
  refine' enter (binds := [("self", .ref s)]) C ?k6 ?k7 ?kd ?k9 ?kB ?_ ?c2 ?c3 ?c4 ?c5
  (case k6 => k_is); (case k7 => k_is); (case kd => omega); (case k9 => exact rfl); (case kB => exact rfl); (case c2 => exact rfl); (case c3 => exact rfl); (case c4 => exact rfl); (case c5 => decide)
  intro h₀' L' h' C'
  clear C
  repeat walk_at "m.s"
  walk_at "m.end"
  intro Cc
  have z := k h' (tk + 1 + 1) q.ts Cc
  rw [← B.sz] at z
  exact z
theorem c_delete (C : Cx w f m news h) (B : BSet w.params T hh news s q kid) (hk : Enc kb k0) (hm : k0 ∈ kid.ks) (h3 : 3 ≤ T) (h5 : T ≤ 5) (hd : f.dp + hh + 18 < 1000)
    (k : ∀ h' tk' news' q' kid' hh' v, Cx w f m news' h' → BSet w.params T hh' news' s q' kid' → hh' ≤ hh → kid'.ks = delI k0 kid.ks → Ch news (q.fp kid) news' (q'.fp kid') → Q v ⟨h', g, d, tk', o⟩) :
    wpAny (MM w) (AR f) (call (.ref 584) [.ref s, .bytes kb tb, .none]) Q E ⟨h, g, d, tk, o⟩ := by
  have Hi := B.i
  have Hd := B.d
  obtain ⟨rq, es, kids, Hr, hcr, hrt, hez, V⟩ := B.root'
  have hz1 : 1 ≤ kid.sz := by
    by_cases h0 : hh = 0
    · rw [← hez]
      rw [V.ks, V.kl (by simpa using h0), show kss [] = [] from rfl, inter_nil] at hm
      cases es with
      | nil => simp [keys] at hm
      | cons a es => simp
    · exact B.z2 h0
  refine' enter (binds := [("self", .ref s), ("key", .bytes kb tb), ("exact", .none)]) C ?k6 ?k7 ?kd ?k9 ?kB ?_ ?c2 ?c3 ?c4 ?c5
  (case k6 => k_is); (case k7 => k_is); (case kd => omega); (case k9 => exact rfl); (case kB => exact rfl); (case c2 => exact rfl); (case c3 => exact rfl); (case c4 => exact rfl); (case c5 => decide)
  intro h₀' L' h' C'
  clear C
  walk_at "m.toIf"
  refine c_park (by walk_at "m.C") B (by walk_at "m.dp") fun h1 tk1 C1 => ?_
  repeat walk_at "m.s"
  have nd1 := B.nd
  simp only [List.nodup_cons, List.mem_cons, not_or] at nd1
  rw [show q.root = kid.a from B.root]
  refine delOk hh (kid := kid) (by walk_at "m.C") B.tr B.inc nd1.2.2 hk h3 h5 B.z1 (.inl rfl) hz1 hm (by walk_at "m.dp") ?_
  intro h2 tk2 news2 kid2 e C2 HT2 ka2 ks2 sz2 sz2' ch2 nd2 hE2 he2
  obtain ⟨B1i, B1d, B1c, B1n, B1ch⟩ := B.tree ch2 HT2 nd2
  have Hi := B1i
  have Hd := B1d
  repeat walk_at "m.s"
  walk_at "m.oset"
  intro h4 news4 C4 I4 D4 ch4
  have nd3 := B1n
  simp only [List.nodup_cons, List.mem_cons, not_or] at nd3
  have cl4 := ch4.keep B1c (by rw [List.mem_singleton]; exact fun z => nd3.1.1 z.symm)
  have T4 := HT2.ch ch4 (fun b hb hb' => nd3.1.2 (List.mem_singleton.mp hb' ▸ hb))
  have c4 := B1ch.step ch4 (by intro b hb; rw [List.mem_singleton.mp hb]; simp)
  have hi4 : Inc kid2.ks := by rw [ks2]; exact B.inc.filter _
  have hl4 : q.sz - 1 = kid2.ks.length := by rw [B.sz, ks2]; have := length_delI B.inc hm; omega
  have hz4 : kid2.sz ≤ 2 * T - 1 := Nat.le_trans sz2' B.z1
  clear Hi Hd Hr V
  obtain ⟨rq4, res4, rkids4, V4⟩ := T4.view
  have Hr := V4.nd
  rw [ka2, ← B.root] at Hr
  have hvl4 : (vals res4).length = res4.length := vals_length _
  have zz4 := V4.sizes h5 hz4
  have hsz4 := V4.sz
  repeat walk_at "m.s"
  refine ifB_dec (fun h0 => ?_) (fun h0 => ?_)
  · repeat walk_at "m.s"
    refine ifB_split (fun hlf => ?_) (fun hlf => ?_)
    · repeat walk_at "m.s"
      walk_at "m.end"
      refine fun Cc => k _ _ news4 { q with sz := q.sz - 1, ts := _ } kid2 hh _ Cc ⟨I4, D4, cl4, T4, B.t, B.root.trans ka2.symm, hi4, B1n, hz4, fun z => absurd hlf (by simpa using z), hl4⟩ (Nat.le_refl _) ks2 c4
    · have hh0 : hh ≠ 0 := by simpa using hlf
      obtain ⟨c, rfl⟩ := Nat.exists_eq_succ_of_ne_zero hh0
      have hres : res4 = [] := List.length_eq_zero_iff.mp (by omega)
      subst hres
      have hkl := V4.kl' hlf
      cases rkids4 with
      | nil => simp at hkl
      | cons y r =>
      cases r with
      | cons _ _ => simp at hkl
      | nil =>
      have hy := V4.kz y (by simp)
      have hg : (refs [y])[(0 : Int).toNat]? = some (.ref y.a) := rfl
      have hrl : (refs [y]).length = 1 := rfl
      repeat walk_at "m.s"
      walk_at "m.getC"
      repeat walk_at "m.s"
      walk_at "m.oset"
      intro h6 news6 C6 I6 D6 ch6
      repeat walk_at "m.s"
      walk_at "m.end"
      have hks : kid2.ks = y.ks := by rw [V4.ks]; show y.ks ++ inter [] [] = _; rw [inter_nil, List.append_nil]
      have hyf : ∀ b ∈ y.fp, b ∈ kid2.fp := fun b hb => by rw [V4.fp, fps_cons]; simp [hb]
      have hyn : y.fp.Nodup := (sub_nodup (ka := []) (kb := []) V4.fp nd2).1
      refine fun Cc => k _ _ news6 { q with sz := q.sz - 1, ts := _, root := y.a } y c _ Cc ⟨I6, D6, ch6.keep cl4 (by rw [List.mem_singleton]; exact fun z => nd3.1.1 z.symm), TreeIn.ch ch6 hy.2.2 (fun b hb hb' => nd3.1.2 (List.mem_singleton.mp hb' ▸ hyf b hb)), B.t, rfl, hks ▸ hi4, ?_, hy.2.1, fun _ => by omega, hks ▸ hl4⟩ (Nat.le_succ _) (hks ▸ ks2) ((c4.step ch6 (by intro b hb; rw [List.mem_singleton.mp hb]; simp)).to fun b hb => ?_)
      · show (q.ds :: q.cl :: y.fp).Nodup
        simp only [List.nodup_cons, List.mem_cons, not_or]
        exact ⟨⟨nd3.1.1, fun z => nd3.1.2 (hyf _ z)⟩, fun z => nd3.2.1 (hyf _ z), hyn⟩
      · left
        simp only [SK.fp, List.mem_cons] at hb ⊢
        exact hb.imp id (fun z => z.imp id (hyf b))
  · repeat walk_at "m.s"
    walk_at "m.end"
    refine fun Cc => k _ _ news4 { q with sz := q.sz - 1, ts := _ } kid2 hh _ Cc ⟨I4, D4, cl4, T4, B.t, B.root.trans ka2.symm, hi4, B1n, hz4, fun z => by omega, hl4⟩ (Nat.le_refl _) ks2 c4
theorem c_discard (C : Cx w f m news h) (B : BSet w.params T hh news s q kid) (hk : Enc kb k0) (hm : k0 ∈ kid.ks) (h3 : 3 ≤ T) (h5 : T ≤ 5) (hd : f.dp + hh + 22 < 1000)
    (k : ∀ h' tk' news' q' kid' hh', Cx w f m news' h' → BSet w.params T hh' news' s q' kid' → hh' ≤ hh → kid'.ks = delI k0 kid.ks → Ch news (q.fp kid) news' (q'.fp kid') → Q .none ⟨h', g, d, tk', o⟩) :
    wpAny (MM w) (AR f) (call (.ref 711) [.ref s, .bytes kb tb]) Q E ⟨h, g, d, tk, o⟩ := by
  have Hi := B.i
  have Hd := B.d
  refine' enter (binds := [("self", .ref s), ("value", .bytes kb tb)]) C ?k6 ?k7 ?kd ?k9 ?kB ?_ ?c2 ?c3 ?c4 ?c5
  (case k6 => k_is); (case k7 => k_is); (case kd => omega); (case k9 => exact rfl); (case kB => exact rfl); (case c2 => exact rfl); (case c3 => exact rfl); (case c4 => exact rfl); (case c5 => decide)
  intro h₀' L' h' C'
  clear C
  repeat walk_at "m.s"
  refine' enter (binds := [("self", .ref s), ("key", .bytes kb tb)]) (by walk_at "m.C") ?k6 ?k7 ?kd ?k9 ?kB ?_ ?c2 ?c3 ?c4 ?c5
  (case k6 => k_is); (case k7 => k_is); (case kd => walk_at "m.dp"); (case k9 => exact rfl); (case kB => exact rfl); (case c2 => exact rfl); (case c3 => exact rfl); (case c4 => exact rfl); (case c5 => decide)
  intro h₀2 L2 h2 C2
  repeat walk_at "m.s"
  refine c_delete (by walk_at "m.C") B hk hm h3 h5 (by walk_at "m.dp") ?_
  intro h3' tk3 news3 q' kid' hh' v C3 B3 hh3 ks3 ch3
  repeat walk_at "m.s"
  walk_at "m.end"
  intro Cc
  repeat walk_at "m.s"
  walk_at "m.end"
  exact fun Cc => k _ _ _ q' kid' hh' Cc B3 hh3 ks3 ch3
end

section

-- U1
-- A CURSOR'S PLACE
/-- the lists of a node about its place i: what lies behind, what lies ahead (turned round) -/
def aft (es : List (Addr × Int)) (kids : List Kid) (i : Nat) : List Int := inter ([] :: kss (kids.drop (i + 1))) (keys (es.drop i))
def bef (es : List (Addr × Int)) (kids : List Kid) (i : Nat) : List Int := (inter (kss (kids.take i)) (keys (es.take i))).reverse
def kAt (kids : List Kid) (i : Nat) : List Int := (kss kids).getD i []
theorem inter_open (s : List Int) (B : List (List Int)) (es : List Int) : inter (s :: B) es = s ++ inter ([] :: B) es := by cases es <;> rfl
theorem kAt_nil (i : Nat) : kAt [] i = [] := by unfold kAt kss; simp
theorem aft_end (es : List (Addr × Int)) (kids : List Kid) (h : kids.length ≤ es.length + 1) : aft es kids es.length = [] := by
  unfold aft
  rw [List.drop_eq_nil_of_le (Nat.le_refl _), List.drop_eq_nil_of_le h]
  rfl
theorem aft_whole {es : List (Addr × Int)} {kids : List Kid} : inter (kss kids) (keys es) = kAt kids 0 ++ aft es kids 0 := by
  unfold aft
  cases kids with
  | nil => rw [kAt_nil]; show inter [] (keys es) = inter [[]] (keys es); rw [inter_nil]; cases es with
    | nil => rfl
    | cons e es => show _ = [] ++ e.2 :: inter [] (keys es); rw [inter_nil]; rfl
  | cons k kids => show inter (k.ks :: kss kids) (keys es) = k.ks ++ inter ([] :: kss kids) (keys es); exact inter_open _ _ _
theorem drop_get {α : Type} {l : List α} {i : Nat} {e : α} (h : l[i]? = some e) : l.drop i = e :: l.drop (i + 1) := by
  obtain ⟨h1, rfl⟩ := List.getElem?_eq_some_iff.mp h
  exact List.drop_eq_getElem_cons h1
theorem take_get {α : Type} {l : List α} {i : Nat} {e : α} (h : l[i]? = some e) : l.take (i + 1) = l.take i ++ [e] := by
  obtain ⟨h1, rfl⟩ := List.getElem?_eq_some_iff.mp h
  exact List.take_succ_eq_append_getElem h1
theorem kAt_get {kids : List Kid} {i : Nat} {k : Kid} (h : kids[i]? = some k) : kAt kids i = k.ks := by
  unfold kAt kss; rw [List.getD_eq_getElem?_getD, List.getElem?_map, h]; rfl
theorem aft_step {es : List (Addr × Int)} {kids : List Kid} {i : Nat} {e : Addr × Int} (hk : kids = [] ∨ kids.length = es.length + 1) (he : es[i]? = some e) : aft es kids i = e.2 :: (kAt kids (i + 1) ++ aft es kids (i + 1)) := by
  have hi := (List.getElem?_eq_some_iff.mp he).1
  unfold aft
  rw [drop_get he, keys_cons]
  rcases hk with rfl | hk
  · rw [kAt_nil]; simp only [List.drop_nil]; show [] ++ e.2 :: inter [] _ = e.2 :: ([] ++ inter [[]] _)
    rw [inter_nil]
    cases hd : keys (es.drop (i + 1)) with
    | nil => rfl
    | cons a l => show _ = e.2 :: (a :: inter [] l); rw [inter_nil]; rfl
  · have hk' : kids[i + 1]? = some kids[i + 1] := List.getElem?_eq_getElem (by omega)
    rw [kAt_get hk', drop_get hk', kss_cons]
    show [] ++ e.2 :: inter _ _ = _
    rw [inter_open]; rfl
theorem bef_zero (es : List (Addr × Int)) (kids : List Kid) : bef es kids 0 = [] := rfl
theorem bef_step {es : List (Addr × Int)} {kids : List Kid} {i : Nat} {e : Addr × Int} (hk : kids = [] ∨ kids.length = es.length + 1) (he : es[i]? = some e) : bef es kids (i + 1) = e.2 :: ((kAt kids i).reverse ++ bef es kids i) := by
  have hi := (List.getElem?_eq_some_iff.mp he).1
  unfold bef
  rw [take_get he, keys_append]
  rcases hk with rfl | hk
  · rw [kAt_nil]; simp only [List.take_nil]; show (inter [] _).reverse = e.2 :: ([] ++ (inter [] _).reverse)
    rw [inter_nil, inter_nil, List.reverse_append]; rfl
  · have hk' : kids[i]? = some kids[i] := List.getElem?_eq_getElem (by omega)
    rw [kAt_get hk', take_get hk', kss_append, inter_split _ _ _ _ (by rw [kss_length, keys_length, List.length_take, List.length_take]; omega), List.reverse_append]
    show (kids[i].ks ++ e.2 :: inter [] []).reverse ++ _ = _
    rw [inter_nil]; simp
theorem bef_whole {es : List (Addr × Int)} {kids : List Kid} (hk : kids = [] ∨ kids.length = es.length + 1) : (inter (kss kids) (keys es)).reverse = (kAt kids es.length).reverse ++ bef es kids es.length := by
  unfold bef
  rw [List.take_of_length_le (Nat.le_refl es.length)]
  rcases hk with rfl | hk
  · rw [kAt_nil]; simp
  · have hk' : kids[es.length]? = some kids[es.length] := List.getElem?_eq_getElem (by omega)
    have e : kids = kids.take es.length ++ [kids[es.length]] := by rw [← take_get hk']; exact (List.take_of_length_le (by omega)).symm
    rw [kAt_get hk']
    conv => lhs; rw [e]
    have e2 := inter_split (kss (kids.take es.length)) (keys es) [kids[es.length].ks] [] (by rw [kss_length, keys_length, List.length_take]; omega)
    rw [List.append_nil] at e2
    rw [kss_append]
    show (inter (kss (kids.take es.length) ++ [kids[es.length].ks]) (keys es)).reverse = _
    rw [e2, List.reverse_append]
    show (kids[es.length].ks ++ inter [] []).reverse ++ _ = _
    rw [inter_nil, List.append_nil]
/-- what is yet to tell of a node, up or down -/
def res (up : Bool) (es : List (Addr × Int)) (kids : List Kid) (i : Nat) : List Int := if up then aft es kids i else bef es kids i
def rnd (up : Bool) (l : List Int) : List Int := if up then l else l.reverse
section
variable {P : Params} {cr : Addr} {T H : Nat} {news n1 n2 : List (Addr × Obj)} {hh : Nat} {k : Kid} {q : NK} {es : List (Addr × Int)} {kids : List Kid} {f1 f2 FP : List Addr} {up : Bool}
theorem VW.ch (V : VW P cr T n1 hh k q es kids) (c : Ch n1 f1 n2 f2) (hd : ∀ b ∈ k.fp, b ∉ f1) : VW P cr T n2 hh k q es kids :=
  ⟨V.nd.ch c (hd _ (V.fp ▸ by simp)) (hd _ (V.fp ▸ by simp)) (hd _ (V.fp ▸ by simp)), V.cr, V.t, fun e he => (V.el e he).ch c, V.sz, V.ks, V.fp, V.kl, V.kl',
    fun x hx => ⟨(V.kz x hx).1, (V.kz x hx).2.1, (V.kz x hx).2.2.ch c fun b hb => hd b (V.fp ▸ List.mem_append_right _ (List.mem_flatMap.mpr ⟨x, hx, hb⟩))⟩⟩
/-- a node of the tree with the cells FP -/
structure NodeT (P : Params) (cr : Addr) (T : Nat) (news : List (Addr × Obj)) (FP : List Addr) (hh : Nat) (k : Kid) (q : NK) (es : List (Addr × Int)) (kids : List Kid) : Prop where
  v : VW P cr T news hh k q es kids
  s : ∀ b ∈ k.fp, b ∈ FP
  z : k.sz ≤ 2 * T - 1
theorem NodeT.ch (N : NodeT P cr T n1 FP hh k q es kids) (c : Ch n1 f1 n2 f2) (hd : ∀ b ∈ FP, b ∉ f1) : NodeT P cr T n2 FP hh k q es kids := ⟨N.v.ch c fun b hb => hd b (N.s b hb), N.s, N.z⟩
theorem NodeT.kl (N : NodeT P cr T news FP hh k q es kids) : kids = [] ∨ kids.length = es.length + 1 := by
  by_cases e : hh = 0
  · exact .inl (N.v.kl (by simpa using e))
  · exact .inr (N.v.kl' (by simpa using e))
theorem NodeT.kid (N : NodeT P cr T news FP (hh + 1) k q es kids) {i : Nat} (hi : i ≤ es.length) : ∃ x q' es' kids', kids[i]? = some x ∧ NodeT P cr T news FP hh x q' es' kids' := by
  have hl : kids.length = es.length + 1 := N.v.kl' (by simp)
  have hx : kids[i]? = some kids[i] := List.getElem?_eq_getElem (by omega)
  have hm := List.mem_of_getElem? hx
  obtain ⟨z1, z2, z3⟩ := N.v.kz _ hm
  obtain ⟨q', es', kids', V'⟩ := TreeIn.view (h := hh) z3
  exact ⟨_, q', es', kids', hx, V', fun b hb => N.s b (N.v.fp ▸ List.mem_append_right _ (List.mem_flatMap.mpr ⟨_, hm, hb⟩)), z2⟩
theorem NodeT.whole (N : NodeT P cr T news FP hh k q es kids) : rnd up k.ks = rnd up (kAt kids (if up then 0 else es.length)) ++ res up es kids (if up then 0 else es.length) := by
  rw [N.v.ks]
  cases up with
  | true => exact aft_whole
  | false => exact bef_whole N.kl
/-- the parents of a cursor, the last first; what they have yet to tell -/
def Path (P : Params) (cr : Addr) (T H : Nat) (news : List (Addr × Obj)) (FP : List Addr) (up : Bool) : List Addr → List Int → Prop
  | [], r => r = []
  | t :: ts, r => ∃ hh k q es kids i u r', NodeT P cr T news FP hh k q es kids ∧ (t, tupOf [.ref k.a, .int (i : Nat) u]) ∈ news ∧ i ≤ es.length ∧ ts.length + hh ≤ H ∧ r = res up es kids i ++ r' ∧ Path P cr T H news FP up ts r'
theorem Path.ch (c : Ch n1 f1 n2 f2) (hd : ∀ b ∈ FP, b ∉ f1) : ∀ {ts : List Addr} {r : List Int}, Path P cr T H n1 FP up ts r → Path P cr T H n2 FP up ts r
  | [], _, h => h
  | _ :: _, _, ⟨hh, k, q, es, kids, i, u, r', a, b, c', d, e, g⟩ => ⟨hh, k, q, es, kids, i, u, r', a.ch c hd, c.keepF b rfl, c', d, e, Path.ch c hd g⟩
/-- where a cursor stands, and what it has yet to tell -/
structure At (P : Params) (cr : Addr) (T H : Nat) (news : List (Addr × Obj)) (FP : List Addr) (up : Bool) (hh : Nat) (k : Kid) (q : NK) (es : List (Addr × Int)) (kids : List Kid) (i : Nat) (ts : List Addr) (desc : Bool) (r : List Int) : Prop where
  n : NodeT P cr T news FP hh k q es kids
  le : i ≤ es.length
  z : ts.length + hh ≤ H
  p : ∃ r', Path P cr T H news FP up ts r' ∧ r = (if desc then rnd up (kAt kids i) else []) ++ (res up es kids i ++ r')
variable {i : Nat} {ts : List Addr} {desc : Bool} {r : List Int}
theorem At.ch (a : At P cr T H n1 FP up hh k q es kids i ts desc r) (c : Ch n1 f1 n2 f2) (hd : ∀ b ∈ FP, b ∉ f1) : At P cr T H n2 FP up hh k q es kids i ts desc r :=
  ⟨a.n.ch c hd, a.le, a.z, let ⟨r', h1, h2⟩ := a.p; ⟨r', h1.ch c hd, h2⟩⟩
theorem At.root (N : NodeT P cr T news FP hh k q es kids) (hz : hh ≤ H) : At P cr T H news FP up hh k q es kids (if up then 0 else es.length) [] true (rnd up k.ks) :=
  ⟨N, by cases up <;> simp, by simpa using hz, [], rfl, by rw [List.append_nil]; exact N.whole⟩
theorem At.leaf (a : At P cr T H news FP up 0 k q es kids i ts desc r) (d2 : Bool) : At P cr T H news FP up 0 k q es kids i ts d2 r := by
  obtain ⟨r', h1, h2⟩ := a.p
  refine ⟨a.n, a.le, a.z, r', h1, ?_⟩
  have e := a.n.v.kl (by simp)
  subst e
  rw [h2, kAt_nil]
  cases desc <;> cases d2 <;> cases up <;> rfl
/-- down to a child -/
theorem At.down (a : At P cr T H news FP up (hh + 1) k q es kids i ts true r) {t : Addr} {u : Tok} (ht : (t, tupOf [.ref k.a, .int (i : Nat) u]) ∈ news) : ∃ x q' es' kids', kids[i]? = some x ∧ NodeT P cr T news FP hh x q' es' kids' ∧
    At P cr T H news FP up hh x q' es' kids' (if up then 0 else es'.length) (t :: ts) true r := by
  obtain ⟨r', h1, h2⟩ := a.p
  obtain ⟨x, q', es', kids', hx, N'⟩ := a.n.kid a.le
  have z := a.z
  refine ⟨x, q', es', kids', hx, N', N', by cases up <;> simp, by simp; omega, res up es kids i ++ r', ⟨hh + 1, k, q, es, kids, i, u, r', a.n, ht, a.le, a.z, rfl, h1⟩, ?_⟩
  rw [h2, if_pos rfl, if_pos rfl, kAt_get hx, N'.whole (up := up), List.append_assoc]
/-- the next upwards -/
theorem At.tellU (a : At P cr T H news FP true hh k q es kids i ts false r) (hi : i < es.length) : ∃ e r', es[i]? = some e ∧ IsE P news e ∧ r = e.2 :: r' ∧ At P cr T H news FP true hh k q es kids (i + 1) ts (!decide (hh = 0)) r' := by
  obtain ⟨r', h1, h2⟩ := a.p
  have he : es[i]? = some es[i] := List.getElem?_eq_getElem hi
  rw [if_neg (by decide)] at h2
  refine ⟨es[i], kAt kids (i + 1) ++ aft es kids (i + 1) ++ r', he, a.n.v.el _ (List.mem_of_getElem? he), by rw [h2]; show [] ++ (aft es kids i ++ r') = _; rw [aft_step a.n.kl he]; simp, a.n, hi, a.z, r', h1, ?_⟩
  by_cases e : hh = 0
  · have := a.n.v.kl (by simpa using e)
    subst this
    rw [kAt_nil]; simp [e]; rfl
  · simp [e]; rfl
theorem At.tellD (a : At P cr T H news FP false hh k q es kids (i + 1) ts false r) : ∃ e r', es[i]? = some e ∧ IsE P news e ∧ r = e.2 :: r' ∧ At P cr T H news FP false hh k q es kids i ts (!decide (hh = 0)) r' := by
  obtain ⟨r', h1, h2⟩ := a.p
  have hi := a.le
  have he : es[i]? = some es[i] := List.getElem?_eq_getElem (by omega)
  rw [if_neg (by decide)] at h2
  refine ⟨es[i], (kAt kids i).reverse ++ bef es kids i ++ r', he, a.n.v.el _ (List.mem_of_getElem? he), by rw [h2]; show [] ++ (bef es kids (i + 1) ++ r') = _; rw [bef_step a.n.kl he]; simp, a.n, by omega, a.z, r', h1, ?_⟩
  by_cases e : hh = 0
  · have := a.n.v.kl (by simpa using e)
    subst this
    rw [kAt_nil]; simp [e]; rfl
  · simp [e]; rfl
/-- a node told to its end: its parents' turn -/
theorem At.pop {t : Addr} (a : At P cr T H news FP up hh k q es kids i (t :: ts) false r) (hi : res up es kids i = []) : ∃ hh' k' q' es' kids' i' u, (t, tupOf [.ref k'.a, .int (i' : Nat) u]) ∈ news ∧ At P cr T H news FP up hh' k' q' es' kids' i' ts false r := by
  obtain ⟨r', h1, h2⟩ := a.p
  rw [if_neg (by decide), hi] at h2
  obtain ⟨hh', k', q', es', kids', i', u, r'', b1, b2, b3, b4, b5, b6⟩ := h1
  exact ⟨hh', k', q', es', kids', i', u, b2, b1, b3, b4, r'', b6, by rw [h2, if_neg (by decide), b5]; rfl⟩
theorem At.done (a : At P cr T H news FP up hh k q es kids i [] false r) (hi : res up es kids i = []) : r = [] := by
  obtain ⟨r', h1, h2⟩ := a.p
  rw [h2, hi, show r' = [] from h1]; rfl
end

-- U2
-- A CURSOR IN THE LEDGER
structure UK where
  dc : Nat
  pl : Nat
  e : Nat
  k1 : Nat
  k2 : Nat
  k3 : Nat
  k4 : Nat
  k5 : Nat
  k6 : Nat
  k7 : Nat
  k8 : Nat
  k9 : Nat
  ti : Nat
@[reducible] def curD (P : Params) (q : UK) (s : Addr) (node : Value) (i : Int) (rc inc : Bool) (pk : Value) (pr : Bool) : List DictEntry :=
  [⟨PyData.keyHash P "btree", .str "btree" q.k1, .ref s⟩, ⟨PyData.keyHash P "current_node", .str "current_node" q.k2, node⟩, ⟨PyData.keyHash P "current_index", .str "current_index" q.k3, .int i q.ti⟩,
   ⟨PyData.keyHash P "recurse", .str "recurse" q.k4, .bool rc⟩, ⟨PyData.keyHash P "increasing", .str "increasing" q.k5, .bool inc⟩, ⟨PyData.keyHash P "parents", .str "parents" q.k6, .ref q.pl⟩,
   ⟨PyData.keyHash P "parked", .str "parked" q.k7, .bool false⟩, ⟨PyData.keyHash P "parking_key", .str "parking_key" q.k8, pk⟩, ⟨PyData.keyHash P "parking_key_read", .str "parking_key_read" q.k9, .bool pr⟩]
def trefs (ts : List Addr) : List Value := (ts.map .ref).reverse
theorem trefs_cons (t : Addr) (ts : List Addr) : trefs (t :: ts) = trefs ts ++ [.ref t] := by simp [trefs]
theorem trefs_length (ts : List Addr) : (trefs ts).length = ts.length := by simp [trefs]
structure CurIn (P : Params) (news : List (Addr × Obj)) (c : Addr) (q : UK) (s : Addr) (node : Value) (i : Int) (rc inc : Bool) (ts : List Addr) (pk : Value) (pr : Bool) : Prop where
  hi : (c, instObj 516 q.dc) ∈ news
  hd : (q.dc, dictOf (curD P q s node i rc inc pk pr) 9) ∈ news
  hp : (q.pl, listOf (trefs ts).toArray q.e) ∈ news
@[reducible] def UK.fp (q : UK) : List Addr := [q.dc, q.pl]
section
variable {w : World} {f : Fm} {m : PySem.Str → Option Value} {news : List (Addr × Obj)} {h : Heap} {E : Value → Shared → Prop}
  {g : Array GenState} {d : Drawn} {tk : Nat} {o : OsState} {Q : Value → Shared → Prop}
variable {A : Around} {c s : Addr} {q : UK} {node node' pk pk' : Value} {i i' : Int} {rc inc pr b : Bool} {ts : List Addr} {t : Addr} {u : Tok} {QU : Unit → Shared → Prop} {ex : Bool} {n1 n2 : List (Addr × Obj)} {f1 f2 : List Addr} {P : Params}
theorem CurIn.mono (U : CurIn P n1 c q s node i rc inc ts pk pr) (k : ∀ p ∈ n1, p ∈ n2) : CurIn P n2 c q s node i rc inc ts pk pr := ⟨k _ U.hi, k _ U.hd, k _ U.hp⟩
theorem CurIn.ch (U : CurIn P n1 c q s node i rc inc ts pk pr) (a : Ch n1 f1 n2 f2) (h1 : q.dc ∉ f1) (h2 : q.pl ∉ f1) : CurIn P n2 c q s node i rc inc ts pk pr := ⟨a.keepF U.hi rfl, a.keep U.hd h1, a.keep U.hp h2⟩
theorem CurIn.ne (C : Cx w f m news h) (U : CurIn P news c q s node i rc inc ts pk pr) : q.pl ≠ q.dc := C.ne U.hp U.hd (cls_ne (by simp))
-- reads
theorem u_btree (C : Cx w f m news h) (U : CurIn w.params news c q s node i rc inc ts pk pr) (k : Q (.ref s) ⟨h, g, d, tk + 1, o⟩) : wpAny (MM w) A (getAttr (.ref c) "btree" ex) Q E ⟨h, g, d, tk, o⟩ := by
  have Hi := U.hi
  have Hd := U.hd
  walk_at "m.attr"
  exact k
theorem u_node (C : Cx w f m news h) (U : CurIn w.params news c q s node i rc inc ts pk pr) (hn : handedIn node = true) (k : Q node ⟨h, g, d, tk + 1, o⟩) : wpAny (MM w) A (getAttr (.ref c) "current_node" ex) Q E ⟨h, g, d, tk, o⟩ := by
  have Hi := U.hi
  have Hd := U.hd
  refine' o_get C Hi Hd ?hg ?hh ?ha ?hn ?hl hn ?_
  (case hg => k_is); (case hh => k_is); (case ha => k_is); (case hn => k_is); (case hl => k_get)
  exact k
theorem u_idx (C : Cx w f m news h) (U : CurIn w.params news c q s node i rc inc ts pk pr) (k : Q (.int i q.ti) ⟨h, g, d, tk + 1, o⟩) : wpAny (MM w) A (getAttr (.ref c) "current_index" ex) Q E ⟨h, g, d, tk, o⟩ := by
  have Hi := U.hi
  have Hd := U.hd
  walk_at "m.attr"
  exact k
theorem u_rc (C : Cx w f m news h) (U : CurIn w.params news c q s node i rc inc ts pk pr) (k : Q (.bool rc) ⟨h, g, d, tk + 1, o⟩) : wpAny (MM w) A (getAttr (.ref c) "recurse" ex) Q E ⟨h, g, d, tk, o⟩ := by
  have Hi := U.hi
  have Hd := U.hd
  walk_at "m.attr"
  exact k
theorem u_inc (C : Cx w f m news h) (U : CurIn w.params news c q s node i rc inc ts pk pr) (k : Q (.bool inc) ⟨h, g, d, tk + 1, o⟩) : wpAny (MM w) A (getAttr (.ref c) "increasing" ex) Q E ⟨h, g, d, tk, o⟩ := by
  have Hi := U.hi
  have Hd := U.hd
  walk_at "m.attr"
  exact k
theorem u_pl (C : Cx w f m news h) (U : CurIn w.params news c q s node i rc inc ts pk pr) (k : Q (.ref q.pl) ⟨h, g, d, tk + 1, o⟩) : wpAny (MM w) A (getAttr (.ref c) "parents" ex) Q E ⟨h, g, d, tk, o⟩ := by
  have Hi := U.hi
  have Hd := U.hd
  walk_at "m.attr"
  exact k
theorem u_parked (C : Cx w f m news h) (U : CurIn w.params news c q s node i rc inc ts pk pr) (k : Q (.bool false) ⟨h, g, d, tk + 1, o⟩) : wpAny (MM w) A (getAttr (.ref c) "parked" ex) Q E ⟨h, g, d, tk, o⟩ := by
  have Hi := U.hi
  have Hd := U.hd
  walk_at "m.attr"
  exact k
-- stores
theorem us_node (C : Cx w f m news h) (U : CurIn w.params news c q s node i rc inc ts pk pr) (k : ∀ h' news', Cx w f m news' h' → CurIn w.params news' c q s node' i rc inc ts pk pr → Ch news [q.dc] news' [q.dc] → QU () ⟨h', g, d, tk + 2, o⟩) : wpAny (MM w) A (setAttr (.ref c) "current_node" node') QU E ⟨h, g, d, tk, o⟩ := by
  have Hi := U.hi
  have Hd := U.hd
  walk_at "m.oset"
  exact fun h' n' C' I' D' ch' => k h' n' C' ⟨I', D', ch'.keep U.hp (by rw [List.mem_singleton]; exact U.ne C)⟩ ch'
theorem us_idx (C : Cx w f m news h) (U : CurIn w.params news c q s node i rc inc ts pk pr) (k : ∀ h' news' q', q'.dc = q.dc → q'.pl = q.pl → Cx w f m news' h' → CurIn w.params news' c q' s node i' rc inc ts pk pr → Ch news [q.dc] news' [q.dc] → QU () ⟨h', g, d, tk + 2, o⟩) : wpAny (MM w) A (setAttr (.ref c) "current_index" (.int i' u)) QU E ⟨h, g, d, tk, o⟩ := by
  have Hi := U.hi
  have Hd := U.hd
  walk_at "m.oset"
  have hne := U.ne C
  exact fun h' n' C' I' D' ch' => k h' n' { q with ti := u } rfl rfl C' ⟨I', D', ch'.keep U.hp (by rw [List.mem_singleton]; exact hne)⟩ ch'
theorem us_rc (C : Cx w f m news h) (U : CurIn w.params news c q s node i rc inc ts pk pr) (k : ∀ h' news', Cx w f m news' h' → CurIn w.params news' c q s node i b inc ts pk pr → Ch news [q.dc] news' [q.dc] → QU () ⟨h', g, d, tk + 2, o⟩) : wpAny (MM w) A (setAttr (.ref c) "recurse" (.bool b)) QU E ⟨h, g, d, tk, o⟩ := by
  have Hi := U.hi
  have Hd := U.hd
  walk_at "m.oset"
  exact fun h' n' C' I' D' ch' => k h' n' C' ⟨I', D', ch'.keep U.hp (by rw [List.mem_singleton]; exact U.ne C)⟩ ch'
theorem us_inc (C : Cx w f m news h) (U : CurIn w.params news c q s node i rc inc ts pk pr) (k : ∀ h' news', Cx w f m news' h' → CurIn w.params news' c q s node i rc b ts pk pr → Ch news [q.dc] news' [q.dc] → QU () ⟨h', g, d, tk + 2, o⟩) : wpAny (MM w) A (setAttr (.ref c) "increasing" (.bool b)) QU E ⟨h, g, d, tk, o⟩ := by
  have Hi := U.hi
  have Hd := U.hd
  walk_at "m.oset"
  exact fun h' n' C' I' D' ch' => k h' n' C' ⟨I', D', ch'.keep U.hp (by rw [List.mem_singleton]; exact U.ne C)⟩ ch'
theorem us_parked (C : Cx w f m news h) (U : CurIn w.params news c q s node i rc inc ts pk pr) (k : ∀ h' news', Cx w f m news' h' → CurIn w.params news' c q s node i rc inc ts pk pr → Ch news [q.dc] news' [q.dc] → QU () ⟨h', g, d, tk + 2, o⟩) : wpAny (MM w) A (setAttr (.ref c) "parked" (.bool false)) QU E ⟨h, g, d, tk, o⟩ := by
  have Hi := U.hi
  have Hd := U.hd
  walk_at "m.oset"
  exact fun h' n' C' I' D' ch' => k h' n' C' ⟨I', D', ch'.keep U.hp (by rw [List.mem_singleton]; exact U.ne C)⟩ ch'
theorem us_pk (C : Cx w f m news h) (U : CurIn w.params news c q s node i rc inc ts pk pr) (k : ∀ h' news', Cx w f m news' h' → CurIn w.params news' c q s node i rc inc ts pk' pr → Ch news [q.dc] news' [q.dc] → QU () ⟨h', g, d, tk + 2, o⟩) : wpAny (MM w) A (setAttr (.ref c) "parking_key" pk') QU E ⟨h, g, d, tk, o⟩ := by
  have Hi := U.hi
  have Hd := U.hd
  walk_at "m.oset"
  exact fun h' n' C' I' D' ch' => k h' n' C' ⟨I', D', ch'.keep U.hp (by rw [List.mem_singleton]; exact U.ne C)⟩ ch'
theorem us_pr (C : Cx w f m news h) (U : CurIn w.params news c q s node i rc inc ts pk pr) (k : ∀ h' news', Cx w f m news' h' → CurIn w.params news' c q s node i rc inc ts pk b → Ch news [q.dc] news' [q.dc] → QU () ⟨h', g, d, tk + 2, o⟩) : wpAny (MM w) A (setAttr (.ref c) "parking_key_read" (.bool b)) QU E ⟨h, g, d, tk, o⟩ := by
  have Hi := U.hi
  have Hd := U.hd
  walk_at "m.oset"
  exact fun h' n' C' I' D' ch' => k h' n' C' ⟨I', D', ch'.keep U.hp (by rw [List.mem_singleton]; exact U.ne C)⟩ ch'
theorem us_pl {l : Addr} {e : Nat} (C : Cx w f m news h) (U : CurIn w.params news c q s node i rc inc ts pk pr) (hl : (l, listOf ([] : List Value).toArray e) ∈ news) (k : ∀ h' news' q', q'.dc = q.dc → q'.pl = l → Cx w f m news' h' → CurIn w.params news' c q' s node i rc inc [] pk pr → Ch news [q.dc] news' [q.dc] → QU () ⟨h', g, d, tk + 2, o⟩) : wpAny (MM w) A (setAttr (.ref c) "parents" (.ref l)) QU E ⟨h, g, d, tk, o⟩ := by
  have Hi := U.hi
  have Hd := U.hd
  walk_at "m.oset"
  exact fun h' n' C' I' D' ch' => k h' n' { q with pl := l, e := e } rfl rfl C' ⟨I', D', ch'.keep hl (by rw [List.mem_singleton]; exact C.ne hl Hd (cls_ne (by simp)))⟩ ch'
theorem u_push (C : Cx w f m news h) (U : CurIn w.params news c q s node i rc inc ts pk pr) (hz : ts.length ≤ 900) (k : ∀ h' news' q', q'.dc = q.dc → q'.pl = q.pl → Cx w f m news' h' → CurIn w.params news' c q' s node i rc inc (t :: ts) pk pr → Ch news [q.pl] news' [q.pl] → Q .none ⟨h', g, d, tk, o⟩) :
    wpAny (MM w) A (call (.builtin "list.append") [.ref q.pl, .ref t]) Q E ⟨h, g, d, tk, o⟩ :=
  l_append C U.hp (by rw [trefs_length]; omega) fun h' C' => k h' _ { q with e := q.e + 1 } rfl rfl C' ⟨mem_up U.hi (C.ne U.hi U.hp (cls_ne (by simp))), mem_up U.hd (Ne.symm (U.ne C)), by rw [trefs_cons]; exact mem_up_self⟩ (Ch.up C U.hp rfl)
theorem u_pop (C : Cx w f m news h) (U : CurIn w.params news c q s node i rc inc (t :: ts) pk pr) (hz : ts.length ≤ 900) (k : ∀ h' news' q', q'.dc = q.dc → q'.pl = q.pl → Cx w f m news' h' → CurIn w.params news' c q' s node i rc inc ts pk pr → Ch news [q.pl] news' [q.pl] → Q (.ref t) ⟨h', g, d, tk, o⟩) :
    wpAny (MM w) A (call (.builtin "list.pop") [.ref q.pl]) Q E ⟨h, g, d, tk, o⟩ :=
  l_pop C (by have := U.hp; rw [trefs_cons] at this; exact this) (by rw [trefs_length]; omega) fun h' C' => k h' _ { q with e := q.e + 1 } rfl rfl C' ⟨mem_up U.hi (C.ne U.hi U.hp (cls_ne (by simp))), mem_up U.hd (Ne.symm (U.ne C)), mem_up_self⟩ (Ch.up C U.hp rfl)
-- methods
theorem um_unpark {pl : Sem Bool} {QM : Value × List Value → Shared → Prop} (C : Cx w f m news h) (U : CurIn w.params news c q s node i rc inc ts pk pr) (k : QM (.ref 470, [.ref c]) ⟨h, g, d, tk, o⟩) : wpAny (MM w) A (getMethod (.ref c) "_maybe_unpark" pl) QM E ⟨h, g, d, tk, o⟩ := by
  have Hi := U.hi
  have Hd := U.hd
  walk_at "m.meth"
  exact k
theorem um_least {pl : Sem Bool} {QM : Value × List Value → Shared → Prop} (C : Cx w f m news h) (U : CurIn w.params news c q s node i rc inc ts pk pr) (k : QM (.ref 449, [.ref c]) ⟨h, g, d, tk, o⟩) : wpAny (MM w) A (getMethod (.ref c) "_seek_least" pl) QM E ⟨h, g, d, tk, o⟩ := by
  have Hi := U.hi
  have Hd := U.hd
  walk_at "m.meth"
  exact k
theorem um_greatest {pl : Sem Bool} {QM : Value × List Value → Shared → Prop} (C : Cx w f m news h) (U : CurIn w.params news c q s node i rc inc ts pk pr) (k : QM (.ref 456, [.ref c]) ⟨h, g, d, tk, o⟩) : wpAny (MM w) A (getMethod (.ref c) "_seek_greatest" pl) QM E ⟨h, g, d, tk, o⟩ := by
  have Hi := U.hi
  have Hd := U.hd
  walk_at "m.meth"
  exact k
end
local macro_rules | `(tactic| walk_at "m.attr") => `(tactic| first
  | with_reducible refine u_btree (by walk_at "m.C") (by assumption) ?_
  | with_reducible refine u_node (by walk_at "m.C") (by assumption) rfl ?_
  | with_reducible refine u_idx (by walk_at "m.C") (by assumption) ?_
  | with_reducible refine u_rc (by walk_at "m.C") (by assumption) ?_
  | with_reducible refine u_inc (by walk_at "m.C") (by assumption) ?_
  | with_reducible refine u_pl (by walk_at "m.C") (by assumption) ?_
  | with_reducible refine u_parked (by walk_at "m.C") (by assumption) ?_)
local macro_rules | `(tactic| walk_at "m.uset") => `(tactic| first
  | with_reducible refine us_node (by walk_at "m.C") (by assumption) ?_
  | with_reducible refine us_idx (by walk_at "m.C") (by assumption) ?_
  | with_reducible refine us_rc (by walk_at "m.C") (by assumption) ?_
  | with_reducible refine us_inc (by walk_at "m.C") (by assumption) ?_
  | with_reducible refine us_parked (by walk_at "m.C") (by assumption) ?_
  | with_reducible refine us_pk (by walk_at "m.C") (by assumption) ?_
  | with_reducible refine us_pr (by walk_at "m.C") (by assumption) ?_)
local macro_rules | `(tactic| walk_at "m.meth") => `(tactic| first
  | with_reducible refine um_unpark (by walk_at "m.C") (by assumption) ?_
  | with_reducible refine um_least (by walk_at "m.C") (by assumption) ?_
  | with_reducible refine um_greatest (by walk_at "m.C") (by assumption) ?_)

local macro_rules | `(tactic| walk_at "m.attr") => `(tactic| first
  | with_reducible refine u_btree (by walk_at "m.C") (by assumption) ?_
  | with_reducible refine u_node (by walk_at "m.C") (by assumption) rfl ?_
  | with_reducible refine u_idx (by walk_at "m.C") (by assumption) ?_
  | with_reducible refine u_rc (by walk_at "m.C") (by assumption) ?_
  | with_reducible refine u_inc (by walk_at "m.C") (by assumption) ?_
  | with_reducible refine u_pl (by walk_at "m.C") (by assumption) ?_
  | with_reducible refine u_parked (by walk_at "m.C") (by assumption) ?_)
local macro_rules | `(tactic| walk_at "m.uset") => `(tactic| first
  | with_reducible refine us_node (by walk_at "m.C") (by assumption) ?_
  | with_reducible refine us_idx (by walk_at "m.C") (by assumption) ?_
  | with_reducible refine us_rc (by walk_at "m.C") (by assumption) ?_
  | with_reducible refine us_inc (by walk_at "m.C") (by assumption) ?_
  | with_reducible refine us_parked (by walk_at "m.C") (by assumption) ?_
  | with_reducible refine us_pk (by walk_at "m.C") (by assumption) ?_
  | with_reducible refine us_pr (by walk_at "m.C") (by assumption) ?_)
local macro_rules | `(tactic| walk_at "m.meth") => `(tactic| first
  | with_reducible refine um_unpark (by walk_at "m.C") (by assumption) ?_
  | with_reducible refine um_least (by walk_at "m.C") (by assumption) ?_
  | with_reducible refine um_greatest (by walk_at "m.C") (by assumption) ?_)

-- U3
section
variable {w : World} {f : Fm} {m : PySem.Str → Option Value} {news : List (Addr × Obj)} {h : Heap} {E : Value → Shared → Prop}
  {g : Array GenState} {d : Drawn} {tk : Nat} {o : OsState} {Q : Value → Shared → Prop}
variable {c s cr : Addr} {q q1 : UK} {node pk : Value} {rc inc pr up : Bool} {ts : List Addr} {T H hh : Nat} {FP : List Addr} {k : Kid} {nq : NK} {es : List (Addr × Int)} {kids : List Kid} {i : Nat} {r : List Int} {ii : Int}
theorem UK.off (h : ∀ b ∈ FP, b ∉ q.fp) (e1 : q1.dc = q.dc) (e2 : q1.pl = q.pl) : (∀ b ∈ FP, b ∉ [q1.dc]) ∧ (∀ b ∈ FP, b ∉ [q1.pl]) :=
  ⟨fun b hb z => h b hb (by rw [List.mem_singleton.mp z, e1]; simp), fun b hb z => h b hb (by rw [List.mem_singleton.mp z, e2]; simp)⟩
theorem c_unpark (C : Cx w f m news h) (U : CurIn w.params news c q s node ii rc inc ts pk pr) (hd : f.dp < 1000) (k : ∀ h' tk', Cx w f m news h' → Q .none ⟨h', g, d, tk', o⟩) : wpAny (MM w) (AR f) (call (.ref 470) [.ref c]) Q E ⟨h, g, d, tk, o⟩ := by
  refine' enter (binds := [("self", .ref c)]) C ?k6 ?k7 ?kd ?k9 ?kB ?_ ?c2 ?c3 ?c4 ?c5
  (case k6 => k_is); (case k7 => k_is); (case kd => omega); (case k9 => exact rfl); (case kB => exact rfl); (case c2 => exact rfl); (case c3 => exact rfl); (case c4 => exact rfl); (case c5 => decide)
  intro h₀' L' h' C'
  clear C
  repeat walk_at "m.s"
  walk_at "m.end"
  exact fun Cc => k _ _ Cc
def SkI (w : World) (fr : Fm) (news0 : List (Addr × Obj)) (g : Array GenState) (d : Drawn) (o : OsState) (c s : Addr) (q0 : UK) (cr : Addr) (T H : Nat) (FP : List Addr) (up rc inc : Bool) (pk : Value) (pr : Bool) (r : List Int) (n : Nat) (s' : Shared) : Prop :=
  ∃ h1 tk1 m1 news1 q1 k nq es kids i ts, s' = ⟨h1, g, d, tk1, o⟩ ∧ Cx w fr m1 news1 h1 ∧ Binds m1 [("self", .ref c)] ∧ CurIn w.params news1 c q1 s (.ref k.a) (i : Nat) rc inc ts pk pr ∧ At w.params cr T H news1 FP up n k nq es kids i ts true r ∧
    Ch news0 q0.fp news1 q0.fp ∧ q1.dc = q0.dc ∧ q1.pl = q0.pl
theorem c_least (C : Cx w f m news h) (U : CurIn w.params news c q s (.ref k.a) (i : Nat) rc inc ts pk pr) (a : At w.params cr T H news FP true hh k nq es kids i ts true r) (hF : ∀ b ∈ FP, b ∉ q.fp) (h5 : T ≤ 5) (hH : H ≤ 900) (hd : f.dp < 1000)
    (kk : ∀ h' tk' news' q' k' nq' es' kids' (i' : Nat) ts', Cx w f m news' h' → CurIn w.params news' c q' s (.ref k'.a) i' rc inc ts' pk pr → At w.params cr T H news' FP true 0 k' nq' es' kids' i' ts' true r → Ch news q.fp news' q.fp → q'.dc = q.dc → q'.pl = q.pl → Q .none ⟨h', g, d, tk', o⟩) :
    wpAny (MM w) (AR f) (call (.ref 449) [.ref c]) Q E ⟨h, g, d, tk, o⟩ := by
  refine' enter (binds := [("self", .ref c)]) C ?k6 ?k7 ?kd ?k9 ?kB ?_ ?c2 ?c3 ?c4 ?c5
  (case k6 => k_is); (case k7 => k_is); (case kd => omega); (case k9 => exact rfl); (case kB => exact rfl); (case c2 => exact rfl); (case c3 => exact rfl); (case c4 => exact rfl); (case c5 => decide)
  intro h₀' L' h' C'
  clear C
  repeat walk_at "m.s"
  refine s_while (SkI w C'.fr news g d o c s q cr T H FP true rc inc pk pr r) hh ⟨_, _, _, news, q, k, nq, es, kids, i, ts, rfl, by assumption, ⟨rfl, trivial⟩, U, a, Ch.refl, rfl, rfl⟩ ?_
  clear U a
  rintro n s' ⟨h1, tk1, m1, news1, q1, k1, nq1, es1, kids1, i1, ts1, rfl, C1, eB, U1, a1, ch1, e1, e2⟩
  replace C1 := C1.pins eB
  have Hn := a1.n.v.nd
  repeat walk_at "m.s"
  refine ifB_split (fun hlf => ?_) (fun hlf => ?_)
  · have h0 : n = 0 := by simpa using hlf
    subst h0
    repeat walk_at "m.s"
    walk_at "m.end"
    exact fun Cc => kk _ _ _ q1 k1 nq1 es1 kids1 i1 ts1 Cc U1 a1 ch1 e1 e2
  · have h0 : n ≠ 0 := by simpa using hlf
    obtain ⟨n, rfl⟩ := Nat.exists_eq_succ_of_ne_zero h0
    obtain ⟨o1, o2⟩ := UK.off hF e1 e2
    have Hp := U1.hp
    have zz := a1.n.v.sizes h5 a1.n.z
    repeat walk_at "m.s"
    have sb := Cx.top ‹Cx w _ _ (_ :: news1) _›
    refine u_push (by walk_at "m.C") (U1.mono sb) (by have := a1.z; omega) ?_
    intro h2 news2 q2 d1 d2 C2 U2 ch2
    have a2 := (a1.ch (Ch.none sb) (by simp)).ch ch2 o2
    obtain ⟨x, xq, xes, xkids, hx, Nx, a3⟩ := a2.down (ch2.keepF List.mem_cons_self rfl)
    have a3 : At w.params cr T H news2 FP true n x xq xes xkids 0 _ true r := a3
    clear Hn
    have Hn := a2.n.v.nd
    have hg : (refs kids1)[((i1 : Nat) : Int).toNat]? = some (.ref x.a) := by rw [Int.toNat_natCast]; unfold refs; rw [List.getElem?_map, hx]; rfl
    repeat walk_at "m.s"
    walk_at "m.getC"
    repeat walk_at "m.s"
    walk_at "m.uset"
    intro h4 news4 C4 U4 ch4
    have a4 := a3.ch ch4 (UK.off hF (d1.trans e1) (d2.trans e2)).1
    repeat walk_at "m.s"
    walk_at "m.uset"
    intro h5' news5 q5 d3 d4 C5 U5 ch5
    repeat walk_at "m.s"
    exact ⟨n, Nat.lt_succ_self _, _, _, _, news5, q5, x, xq, xes, xkids, 0, _, rfl, by assumption, ⟨rfl, trivial⟩, U5, a4.ch ch5 (UK.off hF (d1.trans e1) (d2.trans e2)).1, (((ch1.sub sb).step ch2 (by simp [e2])).step ch4 (by simp [d1, e1])).step ch5 (by simp [d1, e1]), d3.trans (d1.trans e1), d4.trans (d2.trans e2)⟩
theorem c_greatest (C : Cx w f m news h) (U : CurIn w.params news c q s (.ref k.a) (i : Nat) rc inc ts pk pr) (a : At w.params cr T H news FP false hh k nq es kids i ts true r) (hF : ∀ b ∈ FP, b ∉ q.fp) (h5 : T ≤ 5) (hH : H ≤ 900) (hd : f.dp < 1000)
    (kk : ∀ h' tk' news' q' k' nq' es' kids' (i' : Nat) ts', Cx w f m news' h' → CurIn w.params news' c q' s (.ref k'.a) i' rc inc ts' pk pr → At w.params cr T H news' FP false 0 k' nq' es' kids' i' ts' true r → Ch news q.fp news' q.fp → q'.dc = q.dc → q'.pl = q.pl → Q .none ⟨h', g, d, tk', o⟩) :
    wpAny (MM w) (AR f) (call (.ref 456) [.ref c]) Q E ⟨h, g, d, tk, o⟩ := by
  refine' enter (binds := [("self", .ref c)]) C ?k6 ?k7 ?kd ?k9 ?kB ?_ ?c2 ?c3 ?c4 ?c5
  (case k6 => k_is); (case k7 => k_is); (case kd => omega); (case k9 => exact rfl); (case kB => exact rfl); (case c2 => exact rfl); (case c3 => exact rfl); (case c4 => exact rfl); (case c5 => decide)
  intro h₀' L' h' C'
  clear C
  repeat walk_at "m.s"
  refine s_while (SkI w C'.fr news g d o c s q cr T H FP false rc inc pk pr r) hh ⟨_, _, _, news, q, k, nq, es, kids, i, ts, rfl, by assumption, ⟨rfl, trivial⟩, U, a, Ch.refl, rfl, rfl⟩ ?_
  clear U a
  rintro n s' ⟨h1, tk1, m1, news1, q1, k1, nq1, es1, kids1, i1, ts1, rfl, C1, eB, U1, a1, ch1, e1, e2⟩
  replace C1 := C1.pins eB
  have Hn := a1.n.v.nd
  repeat walk_at "m.s"
  refine ifB_split (fun hlf => ?_) (fun hlf => ?_)
  · have h0 : n = 0 := by simpa using hlf
    subst h0
    repeat walk_at "m.s"
    walk_at "m.end"
    exact fun Cc => kk _ _ _ q1 k1 nq1 es1 kids1 i1 ts1 Cc U1 a1 ch1 e1 e2
  · have h0 : n ≠ 0 := by simpa using hlf
    obtain ⟨n, rfl⟩ := Nat.exists_eq_succ_of_ne_zero h0
    obtain ⟨o1, o2⟩ := UK.off hF e1 e2
    have Hp := U1.hp
    have zz := a1.n.v.sizes h5 a1.n.z
    repeat walk_at "m.s"
    have sb := Cx.top ‹Cx w _ _ (_ :: news1) _›
    refine u_push (by walk_at "m.C") (U1.mono sb) (by have := a1.z; omega) ?_
    intro h2 news2 q2 d1 d2 C2 U2 ch2
    have a2 := (a1.ch (Ch.none sb) (by simp)).ch ch2 o2
    obtain ⟨x, xq, xes, xkids, hx, Nx, a3⟩ := a2.down (ch2.keepF List.mem_cons_self rfl)
    have a3 : At w.params cr T H news2 FP false n x xq xes xkids xes.length _ true r := a3
    clear Hn
    have Hn := a2.n.v.nd
    have hg : (refs kids1)[((i1 : Nat) : Int).toNat]? = some (.ref x.a) := by rw [Int.toNat_natCast]; unfold refs; rw [List.getElem?_map, hx]; rfl
    repeat walk_at "m.s"
    walk_at "m.getC"
    repeat walk_at "m.s"
    walk_at "m.uset"
    intro h4 news4 C4 U4 ch4
    have a4 := a3.ch ch4 (UK.off hF (d1.trans e1) (d2.trans e2)).1
    have Hx := a4.n.v.nd
    have zx := a4.n.v.sizes h5 a4.n.z
    repeat walk_at "m.s"
    walk_at "m.uset"
    intro h5' news5 q5 d3 d4 C5 U5 ch5
    repeat walk_at "m.s"
    exact ⟨n, Nat.lt_succ_self _, _, _, _, news5, q5, x, xq, xes, xkids, xes.length, _, rfl, by assumption, ⟨rfl, trivial⟩, U5, a4.ch ch5 (UK.off hF (d1.trans e1) (d2.trans e2)).1, (((ch1.sub sb).step ch2 (by simp [e2])).step ch4 (by simp [d1, e1])).step ch5 (by simp [d1, e1]), d3.trans (d1.trans e1), d4.trans (d2.trans e2)⟩
local macro_rules | `(tactic| walk_at "m.call") => `(tactic| ((with_reducible refine' c_unpark ?C ?U ?d ?_); (case C => walk_at "m.C"); (case U => assumption); (case d => walk_at "m.dp"); intro _ _ _))
end

local macro_rules | `(tactic| walk_at "m.call") => `(tactic| ((with_reducible refine' c_unpark ?C ?U ?d ?_); (case C => walk_at "m.C"); (case U => assumption); (case d => walk_at "m.dp"); intro _ _ _))

-- U4
section
variable {w : World} {f : Fm} {m : PySem.Str → Option Value} {news : List (Addr × Obj)} {h : Heap} {E : Value → Shared → Prop}
  {g : Array GenState} {d : Drawn} {tk : Nat} {o : OsState} {Q : Value → Shared → Prop}
variable {c s cr : Addr} {q q1 : UK} {sq : SK} {kid : Kid} {T H hh0 : Nat} {FP : List Addr} {r : List Int}
theorem BSet.ch {P : Params} {n1 n2 : List (Addr × Obj)} {f1 f2 : List Addr} (B : BSet P T hh0 n1 s sq kid) (c : Ch n1 f1 n2 f2) (hd : ∀ b ∈ sq.fp kid, b ∉ f1) : BSet P T hh0 n2 s sq kid :=
  ⟨c.keepF B.i rfl, c.keep B.d (hd _ (by simp)), c.keep B.cl (hd _ (by simp)), B.tr.ch c fun b hb => hd b (by simp [hb]), B.t, B.root, B.inc, B.nd, B.z1, B.z2, B.sz⟩
theorem BSet.node {P : Params} (B : BSet P T hh0 news s sq kid) : ∃ rq es kids, NodeT P sq.cr T news kid.fp hh0 kid rq es kids := by
  obtain ⟨rq, es, kids, V⟩ := B.tr.view
  exact ⟨rq, es, kids, V, fun b hb => hb, B.z1⟩
/-- a cursor that is to tell r, upwards -/
def CurUp (P : Params) (cr : Addr) (T H : Nat) (news : List (Addr × Obj)) (FP : List Addr) (c : Addr) (q : UK) (s : Addr) (root : Kid) (r : List Int) : Prop :=
  ∃ node i rc inc ts pk pr, CurIn P news c q s node i rc inc ts pk pr ∧ ((node = .none ∧ i = 0 ∧ rc = false ∧ ts = [] ∧ r = root.ks) ∨
    ∃ hh k nq es kids, ∃ n : Nat, node = .ref k.a ∧ i = n ∧ inc = true ∧ At P cr T H news FP true hh k nq es kids n ts rc r)
def CurDn (P : Params) (cr : Addr) (T H : Nat) (news : List (Addr × Obj)) (FP : List Addr) (c : Addr) (q : UK) (s : Addr) (root : Kid) (r : List Int) : Prop :=
  ∃ node i rc inc ts pk pr, CurIn P news c q s node i rc inc ts pk pr ∧ ((node = .none ∧ i = 1 ∧ rc = false ∧ ts = [] ∧ r = root.ks.reverse) ∨
    ∃ hh k nq es kids, ∃ n : Nat, node = .ref k.a ∧ i = n ∧ inc = false ∧ At P cr T H news FP false hh k nq es kids n ts rc r)
def CurOut (P : Params) (news : List (Addr × Obj)) (c : Addr) (q : UK) (s : Addr) (j : Int) : Prop := ∃ inc pk pr, CurIn P news c q s .none j false inc [] pk pr
def NxI (w : World) (fr : Fm) (news0 : List (Addr × Obj)) (g : Array GenState) (d : Drawn) (o : OsState) (c s : Addr) (q0 : UK) (cr : Addr) (T H : Nat) (FP : List Addr) (up : Bool) (r : List Int) (n : Nat) (s' : Shared) : Prop :=
  ∃ h1 tk1 m1 news1 q1 hh k nq es kids i rc inc ts pk pr, s' = ⟨h1, g, d, tk1, o⟩ ∧ Cx w fr m1 news1 h1 ∧ Binds m1 [("self", .ref c)] ∧ CurIn w.params news1 c q1 s (.ref k.a) (i : Nat) rc inc ts pk pr ∧ At w.params cr T H news1 FP up hh k nq es kids i ts rc r ∧
    (rc = true → inc = up) ∧ Ch news0 q0.fp news1 q0.fp ∧ q1.dc = q0.dc ∧ q1.pl = q0.pl ∧ n = if rc then H + 1 else ts.length
def NxJ (w : World) (fr : Fm) (news0 : List (Addr × Obj)) (g : Array GenState) (d : Drawn) (o : OsState) (c s : Addr) (q0 : UK) (cr : Addr) (T H : Nat) (FP : List Addr) (up : Bool) (r : List Int) (n : Nat) (s' : Shared) : Prop :=
  ∃ h1 tk1 m1 news1 q1 hh k nq es kids i inc ts pk pr, s' = ⟨h1, g, d, tk1, o⟩ ∧ Cx w fr m1 news1 h1 ∧ Binds m1 [("self", .ref c)] ∧ CurIn w.params news1 c q1 s (.ref k.a) (i : Nat) false inc ts pk pr ∧ At w.params cr T H news1 FP up hh k nq es kids i ts false r ∧
    Ch news0 q0.fp news1 q0.fp ∧ q1.dc = q0.dc ∧ q1.pl = q0.pl ∧ ts.length ≤ n
local macro_rules | `(tactic| walk_at "m.N") => `(tactic| exact trefs_length _)
theorem c_next (C : Cx w f m news h) (B : BSet w.params T hh0 news s sq kid) (U : CurUp w.params sq.cr T H news kid.fp c q s kid r) (hF : ∀ b ∈ sq.fp kid, b ∉ q.fp) (h3 : 3 ≤ T) (h5 : T ≤ 5) (hH : hh0 ≤ H) (hH9 : H ≤ 900) (hd : f.dp + 2 < 1000)
    (k0 : r = [] → ∀ h' tk' news' q', Cx w f m news' h' → CurOut w.params news' c q' s 1 → Ch news q.fp news' q.fp → q'.dc = q.dc → q'.pl = q.pl → Q .none ⟨h', g, d, tk', o⟩)
    (k1 : ∀ e r', r = e :: r' → ∀ h' tk' news' q' a, Cx w f m news' h' → IsE w.params news' (a, e) → CurUp w.params sq.cr T H news' kid.fp c q' s kid r' → Ch news q.fp news' q.fp → q'.dc = q.dc → q'.pl = q.pl → Q (.ref a) ⟨h', g, d, tk', o⟩) :
    wpAny (MM w) (AR f) (call (.ref 484) [.ref c]) Q E ⟨h, g, d, tk, o⟩ := by
  have hFk : ∀ b ∈ kid.fp, b ∉ q.fp := fun b hb => hF b (by simp [hb])
  obtain ⟨node, ii, rc, inc, ts, pk, pr, U, hU⟩ := U
  refine' enter (binds := [("self", .ref c)]) C ?k6 ?k7 ?kd ?k9 ?kB ?_ ?c2 ?c3 ?c4 ?c5
  (case k6 => k_is); (case k7 => k_is); (case kd => omega); (case k9 => exact rfl); (case kB => exact rfl); (case c2 => exact rfl); (case c3 => exact rfl); (case c4 => exact rfl); (case c5 => decide)
  intro h₀' L' h' C'
  clear C
  repeat walk_at "m.s"
  walk_at "m.uset"
  intro h1 news1 C1 U1 ch1
  have ch1' : Ch news q.fp news1 q.fp := Ch.refl.step ch1 (by simp)
  have B1 := B.ch ch1 fun b hb z => hF b hb (by rw [List.mem_singleton.mp z]; simp)
  walk_at "m.toIf"
  refine s_cut (fun s' => ∃ n, NxI w C'.fr news g d o c s q sq.cr T H kid.fp true r n s') ?_ ?_
  · rcases hU with ⟨rfl, rfl, rfl, rfl, rfl⟩ | ⟨hh, k, nq, es, kids, n, rfl, rfl, rfl, a⟩
    · have Hi := B1.i
      have Hd := B1.d
      repeat walk_at "m.s"
      rw [show sq.root = kid.a from B.root]
      walk_at "m.uset"
      intro h2 news2 C2 U2 ch2
      have B2 := B1.ch ch2 fun b hb z => hF b hb (by rw [List.mem_singleton.mp z]; simp)
      clear Hi Hd
      repeat walk_at "m.s"
      walk_at "m.uset"
      intro h3' news3 q3 d1 d2 C3 U3 ch3
      have B3 := B2.ch ch3 fun b hb z => hF b hb (by rw [List.mem_singleton.mp z]; simp)
      obtain ⟨rq, es, kids, N3⟩ := B3.node
      repeat walk_at "m.s"
      refine c_least (i := 0) (by walk_at "m.C") U3 (At.root (up := true) N3 hH) (fun b hb => by rw [show q3.fp = q.fp by simp [d1, d2]]; exact hFk b hb) h5 hH9 (by walk_at "m.dp") ?_
      intro h4 tk4 news4 q4 k4 nq4 es4 kids4 i4 ts4 C4 U4 a4 ch4 e1 e2
      repeat walk_at "m.s"
      rw [show q3.fp = q.fp by simp [d1, d2]] at ch4
      exact ⟨_, _, _, _, news4, q4, 0, k4, nq4, es4, kids4, i4, false, _, ts4, _, _, rfl, by assumption, ⟨rfl, trivial⟩, U4, a4.leaf false, (fun z => nomatch z), (((ch1'.step ch2 (by simp)).step ch3 (by simp)).trans ch4), e1.trans d1, e2.trans d2, rfl⟩
    · repeat walk_at "m.s"
      exact ⟨_, _, _, _, news1, q, hh, k, nq, es, kids, n, rc, _, ts, _, _, rfl, by assumption, ⟨rfl, trivial⟩, U1, a.ch ch1 fun b hb z => hFk b hb (by rw [List.mem_singleton.mp z]; simp), fun _ => rfl, ch1', rfl, rfl, rfl⟩
  clear U hU U1 C1 ch1 ch1' B1
  rintro s' ⟨n0, hI⟩
  refine s_execs ?_
  refine s_while (NxI w C'.fr news g d o c s q sq.cr T H kid.fp true r) n0 hI ?_
  clear hI
  rintro n s' ⟨h1, tk1, m1, news1, q1, hh, k, nq, es, kids, i, rc, inc, ts, pk, pr, rfl, C1, eB, U1, a1, hinc, ch1, e1, e2, hn⟩
  replace C1 := C1.pins eB
  walk_at "m.toIf"
  refine s_cut (NxJ w C'.fr news g d o c s q sq.cr T H kid.fp true r n) ?_ ?_
  · repeat walk_at "m.s"
    refine ifB_split (fun hrc => ?_) (fun hrc => ?_)
    · subst hrc
      have hi := hinc rfl
      subst hi
      repeat walk_at "m.s"
      refine c_least (by walk_at "m.C") U1 a1 (fun b hb => by rw [show q1.fp = q.fp by simp [e1, e2]]; exact hFk b hb) h5 hH9 (by walk_at "m.dp") ?_
      intro h4 tk4 news4 q4 k4 nq4 es4 kids4 i4 ts4 C4 U4 a4 ch4 e3 e4
      rw [show q1.fp = q.fp by simp [e1, e2]] at ch4
      repeat walk_at "m.s"
      walk_at "m.uset"
      intro h5' news5 C5 U5 ch5
      repeat walk_at "m.s"
      have z4 := a4.z
      exact ⟨_, _, _, news5, q4, 0, k4, nq4, es4, kids4, i4, _, ts4, _, _, rfl, by assumption, ⟨rfl, trivial⟩, U5, (a4.leaf false).ch ch5 (UK.off hFk (e3.trans e1) (e4.trans e2)).1, (ch1.trans ch4).step ch5 (by simp [e3, e1]), e3.trans e1, e4.trans e2, by rw [hn]; simp; omega⟩
    · subst hrc
      repeat walk_at "m.s"
      exact ⟨_, _, _, news1, q1, hh, k, nq, es, kids, i, _, ts, _, _, rfl, by assumption, ⟨rfl, trivial⟩, U1, a1, ch1, e1, e2, by rw [hn]; simp⟩
  clear C1 U1 a1 hinc ch1 e1 e2 hn eB
  rintro s' ⟨h1, tk1, m1, news1, q1, hh, k, nq, es, kids, i, inc, ts, pk, pr, rfl, C1, eB, U1, a1, ch1, e1, e2, hn⟩
  replace C1 := C1.pins eB
  repeat walk_at "m.s"
  walk_at "m.uset"
  intro h2 news2 C2 U2 ch2
  have a2 := a1.ch ch2 (UK.off hFk e1 e2).1
  have ch2' := ch1.step ch2 (by simp [e1])
  have Hn := a2.n.v.nd
  have zz := a2.n.v.sizes h5 a2.n.z
  clear U1 a1 ch1 C1
  walk_at "m.toIf"
  repeat walk_at "m.s"
  refine ifB_dec (fun hlt => ?_) (fun hlt => ?_)
  · obtain ⟨e, r', he, hE, hr, a3⟩ := a2.tellU (by omega)
    repeat walk_at "m.s"
    walk_at "m.getE"
    intro e' he'
    rw [Int.toNat_natCast, he] at he'
    cases he'
    repeat walk_at "m.s"
    walk_at "m.uset"
    intro h3' news3 q3 d1 d2 C3 U3 ch3
    have a4 := a3.ch ch3 (UK.off hFk e1 e2).1
    have hE3 := hE.ch ch3
    have ch3' := ch2'.step ch3 (by simp [e1])
    clear Hn
    have Hn := a4.n.v.nd
    clear U2 C2 ch2
    obtain ⟨b, tb, hB, hb⟩ := id hE3
    repeat walk_at "m.s"
    refine ifB_split (fun hlf => ?_) (fun hlf => ?_)
    · rw [hlf] at a4
      repeat walk_at "m.s"
      walk_at "m.uset"
      intro h5' news5 C5 U5 ch5
      repeat walk_at "m.s"
      walk_at "m.uset"
      intro h6 news6 C6 U6 ch6
      repeat walk_at "m.s"
      walk_at "m.end"
      have o3 := (UK.off hFk (d1.trans e1) (d2.trans e2)).1
      exact fun Cc => k1 e.2 r' hr _ _ news6 q3 e.1 Cc ((hE3.ch ch5).ch ch6) ⟨_, _, _, _, _, _, _, U6, .inr ⟨hh, k, nq, es, kids, i + 1, rfl, by omega, rfl, (a4.ch ch5 o3).ch ch6 o3⟩⟩ ((ch3'.step ch5 (by simp [d1, e1])).step ch6 (by simp [d1, e1])) (d1.trans e1) (d2.trans e2)
    · rw [hlf] at a4
      repeat walk_at "m.s"
      walk_at "m.uset"
      intro h4 news4 C4 U4 ch4
      have hB4 := hB.ch ch4
      clear hB
      repeat walk_at "m.s"
      walk_at "m.uset"
      intro h5' news5 C5 U5 ch5
      repeat walk_at "m.s"
      walk_at "m.uset"
      intro h6 news6 C6 U6 ch6
      repeat walk_at "m.s"
      walk_at "m.end"
      have o3 := (UK.off hFk (d1.trans e1) (d2.trans e2)).1
      exact fun Cc => k1 e.2 r' hr _ _ news6 q3 e.1 Cc (((hE3.ch ch4).ch ch5).ch ch6) ⟨_, _, _, _, _, _, _, U6, .inr ⟨hh, k, nq, es, kids, i + 1, rfl, by omega, rfl, ((a4.ch ch4 o3).ch ch5 o3).ch ch6 o3⟩⟩ (((ch3'.step ch4 (by simp [d1, e1])).step ch5 (by simp [d1, e1])).step ch6 (by simp [d1, e1])) (d1.trans e1) (d2.trans e2)
  · have Hp := U2.hp
    have zt : ts.length ≤ 900 := by have := a2.z; omega
    have hie : i = es.length := by have := a2.le; omega
    have hres : res true es kids i = [] := by rw [hie]; exact aft_end es kids (by rcases a2.n.kl with rfl | z <;> simp [*])
    repeat walk_at "m.s"
    refine ifB_dec (fun hlt => ?_) (fun hlt => ?_)
    · cases ts with
      | nil => exact absurd hlt (by simp)
      | cons t ts =>
      obtain ⟨hh', k', nq', es', kids', i', u', ht, a3⟩ := a2.pop hres
      repeat walk_at "m.s"
      refine u_pop (by walk_at "m.C") U2 (by have : ts.length + 1 ≤ 900 := zt; omega) ?_
      intro h3' news3 q3 d1 d2 C3 U3 ch3
      have a4 := a3.ch ch3 (UK.off hFk e1 e2).2
      have ch3' := ch2'.step ch3 (by simp [e2])
      refine s_unpack (vs := [.ref k'.a, .int i' u']) (by walk_at "m.C") (ch3.keepF ht rfl) rfl rfl rfl ?_
      intro h4 C4
      refine assignInOrder_cons (kas_attr ?_)
      repeat walk_at "m.s"
      walk_at "m.uset"
      intro h5' news5 C5 U5 ch5
      refine assignInOrder_cons (kas_attr ?_)
      repeat walk_at "m.s"
      walk_at "m.uset"
      intro h6 news6 q6 d3 d4 C6 U6 ch6
      refine assignInOrder_nil ?_
      repeat walk_at "m.s"
      have o3 := (UK.off hFk (d1.trans e1) (d2.trans e2)).1
      exact ⟨ts.length, hn, _, _, _, news6, q6, hh', k', nq', es', kids', i', false, _, ts, _, _, rfl, by assumption, ⟨rfl, trivial⟩, U6, (a4.ch ch5 o3).ch ch6 o3, (fun z => nomatch z), ((ch3'.step ch5 (by simp [d1, e1])).step ch6 (by simp [d1, e1])), d3.trans (d1.trans e1), d4.trans (d2.trans e2), rfl⟩
    · cases ts with
      | cons t ts => exact absurd hlt (by simp)
      | nil =>
      repeat walk_at "m.s"
      walk_at "m.uset"
      intro h3' news3 C3 U3 ch3
      repeat walk_at "m.s"
      walk_at "m.uset"
      intro h4 news4 q4 d3 d4 C4 U4 ch4
      repeat walk_at "m.s"
      walk_at "m.end"
      exact fun Cc => k0 (a2.done hres) _ _ news4 q4 Cc ⟨_, _, _, U4⟩ ((ch2'.step ch3 (by simp [e1])).step ch4 (by simp [e1])) (d3.trans e1) (d4.trans e2)
end

local macro_rules | `(tactic| walk_at "m.N") => `(tactic| exact trefs_length _)

-- U5
section
variable {w : World} {f : Fm} {m : PySem.Str → Option Value} {news : List (Addr × Obj)} {h : Heap} {E : Value → Shared → Prop}
  {g : Array GenState} {d : Drawn} {tk : Nat} {o : OsState} {Q : Value → Shared → Prop}
variable {c s cr : Addr} {q q1 : UK} {sq : SK} {kid : Kid} {T H hh0 : Nat} {FP : List Addr} {r : List Int}
theorem c_prev0 (C : Cx w f m news h) (U : CurOut w.params news c q s 0) (hd : f.dp + 2 < 1000)
    (k0 : ∀ h' tk' news' q', Cx w f m news' h' → CurOut w.params news' c q' s 0 → Ch news q.fp news' q.fp → q'.dc = q.dc → q'.pl = q.pl → Q .none ⟨h', g, d, tk', o⟩) :
    wpAny (MM w) (AR f) (call (.ref 477) [.ref c]) Q E ⟨h, g, d, tk, o⟩ := by
  obtain ⟨inc, pk, pr, U⟩ := U
  refine' enter (binds := [("self", .ref c)]) C ?k6 ?k7 ?kd ?k9 ?kB ?_ ?c2 ?c3 ?c4 ?c5
  (case k6 => k_is); (case k7 => k_is); (case kd => omega); (case k9 => exact rfl); (case kB => exact rfl); (case c2 => exact rfl); (case c3 => exact rfl); (case c4 => exact rfl); (case c5 => decide)
  intro h₀' L' h' C'
  clear C
  repeat walk_at "m.s"
  walk_at "m.uset"
  intro h1 news1 C1 U1 ch1
  repeat walk_at "m.s"
  walk_at "m.end"
  exact fun Cc => k0 _ _ news1 q Cc ⟨_, _, _, U1⟩ (Ch.refl.step ch1 (by simp)) rfl rfl
theorem c_prev (C : Cx w f m news h) (B : BSet w.params T hh0 news s sq kid) (U : CurDn w.params sq.cr T H news kid.fp c q s kid r) (hF : ∀ b ∈ sq.fp kid, b ∉ q.fp) (h3 : 3 ≤ T) (h5 : T ≤ 5) (hH : hh0 ≤ H) (hH9 : H ≤ 900) (hd : f.dp + 2 < 1000)
    (k0 : r = [] → ∀ h' tk' news' q', Cx w f m news' h' → CurOut w.params news' c q' s 0 → Ch news q.fp news' q.fp → q'.dc = q.dc → q'.pl = q.pl → Q .none ⟨h', g, d, tk', o⟩)
    (k1 : ∀ e r', r = e :: r' → ∀ h' tk' news' q' a, Cx w f m news' h' → IsE w.params news' (a, e) → CurDn w.params sq.cr T H news' kid.fp c q' s kid r' → Ch news q.fp news' q.fp → q'.dc = q.dc → q'.pl = q.pl → Q (.ref a) ⟨h', g, d, tk', o⟩) :
    wpAny (MM w) (AR f) (call (.ref 477) [.ref c]) Q E ⟨h, g, d, tk, o⟩ := by
  have hFk : ∀ b ∈ kid.fp, b ∉ q.fp := fun b hb => hF b (by simp [hb])
  obtain ⟨node, ii, rc, inc, ts, pk, pr, U, hU⟩ := U
  refine' enter (binds := [("self", .ref c)]) C ?k6 ?k7 ?kd ?k9 ?kB ?_ ?c2 ?c3 ?c4 ?c5
  (case k6 => k_is); (case k7 => k_is); (case kd => omega); (case k9 => exact rfl); (case kB => exact rfl); (case c2 => exact rfl); (case c3 => exact rfl); (case c4 => exact rfl); (case c5 => decide)
  intro h₀' L' h' C'
  clear C
  repeat walk_at "m.s"
  walk_at "m.uset"
  intro h1 news1 C1 U1 ch1
  have ch1' : Ch news q.fp news1 q.fp := Ch.refl.step ch1 (by simp)
  have B1 := B.ch ch1 fun b hb z => hF b hb (by rw [List.mem_singleton.mp z]; simp)
  walk_at "m.toIf"
  refine s_cut (fun s' => ∃ n, NxI w C'.fr news g d o c s q sq.cr T H kid.fp false r n s') ?_ ?_
  · rcases hU with ⟨rfl, rfl, rfl, rfl, rfl⟩ | ⟨hh, k, nq, es, kids, n, rfl, rfl, rfl, a⟩
    · have Hi := B1.i
      have Hd := B1.d
      repeat walk_at "m.s"
      rw [show sq.root = kid.a from B.root]
      walk_at "m.uset"
      intro h2 news2 C2 U2 ch2
      have B2 := B1.ch ch2 fun b hb z => hF b hb (by rw [List.mem_singleton.mp z]; simp)
      clear Hi Hd
      have Hi := B2.i
      have Hd := B2.d
      obtain ⟨rq2, es2, kids2, N2⟩ := B2.node
      have Hn := N2.v.nd
      rw [← B.root] at Hn
      have zz := N2.v.sizes h5 N2.z
      repeat walk_at "m.s"
      walk_at "m.uset"
      intro h3' news3 q3 d1 d2 C3 U3 ch3
      have N3 := N2.ch ch3 fun b hb z => hFk b hb (by rw [List.mem_singleton.mp z]; simp)
      clear Hi Hd Hn
      repeat walk_at "m.s"
      refine c_greatest (i := es2.length) (by walk_at "m.C") U3 (At.root (up := false) N3 hH) (fun b hb => by rw [show q3.fp = q.fp by simp [d1, d2]]; exact hFk b hb) h5 hH9 (by walk_at "m.dp") ?_
      intro h4 tk4 news4 q4 k4 nq4 es4 kids4 i4 ts4 C4 U4 a4 ch4 e1 e2
      repeat walk_at "m.s"
      rw [show q3.fp = q.fp by simp [d1, d2]] at ch4
      exact ⟨_, _, _, _, news4, q4, 0, k4, nq4, es4, kids4, i4, false, _, ts4, _, _, rfl, by assumption, ⟨rfl, trivial⟩, U4, a4.leaf false, (fun z => nomatch z), (((ch1'.step ch2 (by simp)).step ch3 (by simp)).trans ch4), e1.trans d1, e2.trans d2, rfl⟩
    · repeat walk_at "m.s"
      exact ⟨_, _, _, _, news1, q, hh, k, nq, es, kids, n, rc, _, ts, _, _, rfl, by assumption, ⟨rfl, trivial⟩, U1, a.ch ch1 fun b hb z => hFk b hb (by rw [List.mem_singleton.mp z]; simp), fun _ => rfl, ch1', rfl, rfl, rfl⟩
  clear U hU U1 C1 ch1 ch1' B1
  rintro s' ⟨n0, hI⟩
  refine s_execs ?_
  refine s_while (NxI w C'.fr news g d o c s q sq.cr T H kid.fp false r) n0 hI ?_
  clear hI
  rintro n s' ⟨h1, tk1, m1, news1, q1, hh, k, nq, es, kids, i, rc, inc, ts, pk, pr, rfl, C1, eB, U1, a1, hinc, ch1, e1, e2, hn⟩
  replace C1 := C1.pins eB
  walk_at "m.toIf"
  refine s_cut (NxJ w C'.fr news g d o c s q sq.cr T H kid.fp false r n) ?_ ?_
  · repeat walk_at "m.s"
    refine ifB_split (fun hrc => ?_) (fun hrc => ?_)
    · subst hrc
      have hi := hinc rfl
      subst hi
      repeat walk_at "m.s"
      refine c_greatest (by walk_at "m.C") U1 a1 (fun b hb => by rw [show q1.fp = q.fp by simp [e1, e2]]; exact hFk b hb) h5 hH9 (by walk_at "m.dp") ?_
      intro h4 tk4 news4 q4 k4 nq4 es4 kids4 i4 ts4 C4 U4 a4 ch4 e3 e4
      rw [show q1.fp = q.fp by simp [e1, e2]] at ch4
      repeat walk_at "m.s"
      walk_at "m.uset"
      intro h5' news5 C5 U5 ch5
      repeat walk_at "m.s"
      have z4 := a4.z
      exact ⟨_, _, _, news5, q4, 0, k4, nq4, es4, kids4, i4, _, ts4, _, _, rfl, by assumption, ⟨rfl, trivial⟩, U5, (a4.leaf false).ch ch5 (UK.off hFk (e3.trans e1) (e4.trans e2)).1, (ch1.trans ch4).step ch5 (by simp [e3, e1]), e3.trans e1, e4.trans e2, by rw [hn]; simp; omega⟩
    · subst hrc
      repeat walk_at "m.s"
      exact ⟨_, _, _, news1, q1, hh, k, nq, es, kids, i, _, ts, _, _, rfl, by assumption, ⟨rfl, trivial⟩, U1, a1, ch1, e1, e2, by rw [hn]; simp⟩
  clear C1 U1 a1 hinc ch1 e1 e2 hn eB
  rintro s' ⟨h1, tk1, m1, news1, q1, hh, k, nq, es, kids, i, inc, ts, pk, pr, rfl, C1, eB, U1, a1, ch1, e1, e2, hn⟩
  replace C1 := C1.pins eB
  repeat walk_at "m.s"
  walk_at "m.uset"
  intro h2 news2 C2 U2 ch2
  have a2 := a1.ch ch2 (UK.off hFk e1 e2).1
  have ch2' := ch1.step ch2 (by simp [e1])
  clear U1 a1 ch1 C1
  repeat walk_at "m.s"
  walk_at "m.uset"
  intro h3' news3 q3 d1 d2 C3 U3 ch3
  have o3 := (UK.off hFk (d1.trans e1) (d2.trans e2)).1
  have o3' := (UK.off hFk (d1.trans e1) (d2.trans e2)).2
  have a3 := a2.ch ch3 (UK.off hFk e1 e2).1
  have ch3' := ch2'.step ch3 (by simp [e1])
  clear U2 a2 ch2 ch2' C2 ch3
  have Hn := a3.n.v.nd
  have zz := a3.n.v.sizes h5 a3.n.z
  have hle := a3.le
  repeat walk_at "m.s"
  refine ifB_dec (fun hlt => ?_) (fun hlt => ?_)
  · obtain ⟨j, rfl⟩ : ∃ j, i = j + 1 := ⟨i - 1, by omega⟩
    obtain ⟨e, r', he, hE, hr, a4⟩ := a3.tellD
    repeat walk_at "m.s"
    walk_at "m.getE"
    intro e' he'
    rw [show (((j + 1 : Nat) : Int) - 1).toNat = j by omega, he] at he'
    cases he'
    obtain ⟨b, tb, hB, hb⟩ := id hE
    repeat walk_at "m.s"
    refine ifB_split (fun hlf => ?_) (fun hlf => ?_)
    · rw [hlf] at a4
      repeat walk_at "m.s"
      walk_at "m.uset"
      intro h5' news5 C5 U5 ch5
      repeat walk_at "m.s"
      walk_at "m.uset"
      intro h6 news6 C6 U6 ch6
      repeat walk_at "m.s"
      walk_at "m.end"
      exact fun Cc => k1 e.2 r' hr _ _ news6 q3 e.1 Cc ((hE.ch ch5).ch ch6) ⟨_, _, _, _, _, _, _, U6, .inr ⟨hh, k, nq, es, kids, j, rfl, by omega, rfl, (a4.ch ch5 o3).ch ch6 o3⟩⟩ ((ch3'.step ch5 (by simp [d1, e1])).step ch6 (by simp [d1, e1])) (d1.trans e1) (d2.trans e2)
    · rw [hlf] at a4
      repeat walk_at "m.s"
      walk_at "m.uset"
      intro h4 news4 C4 U4 ch4
      have hB4 := hB.ch ch4
      clear hB
      repeat walk_at "m.s"
      walk_at "m.uset"
      intro h5' news5 C5 U5 ch5
      repeat walk_at "m.s"
      walk_at "m.uset"
      intro h6 news6 C6 U6 ch6
      repeat walk_at "m.s"
      walk_at "m.end"
      exact fun Cc => k1 e.2 r' hr _ _ news6 q3 e.1 Cc (((hE.ch ch4).ch ch5).ch ch6) ⟨_, _, _, _, _, _, _, U6, .inr ⟨hh, k, nq, es, kids, j, rfl, by omega, rfl, ((a4.ch ch4 o3).ch ch5 o3).ch ch6 o3⟩⟩ (((ch3'.step ch4 (by simp [d1, e1])).step ch5 (by simp [d1, e1])).step ch6 (by simp [d1, e1])) (d1.trans e1) (d2.trans e2)
  · have Hp := U3.hp
    have zt : ts.length ≤ 900 := by have := a3.z; omega
    have hie : i = 0 := by omega
    have hres : res false es kids i = [] := by rw [hie]; rfl
    repeat walk_at "m.s"
    refine ifB_dec (fun hlt => ?_) (fun hlt => ?_)
    · cases ts with
      | nil => exact absurd hlt (by simp)
      | cons t ts =>
      obtain ⟨hh', k', nq', es', kids', i', u', ht, a4⟩ := a3.pop hres
      repeat walk_at "m.s"
      refine u_pop (by walk_at "m.C") U3 (by have : ts.length + 1 ≤ 900 := zt; omega) ?_
      intro h4 news4 q4 d3 d4 C4 U4 ch4
      have a5 := a4.ch ch4 o3'
      have ch4' := ch3'.step ch4 (by simp [d2, e2])
      refine s_unpack (vs := [.ref k'.a, .int i' u']) (by walk_at "m.C") (ch4.keepF ht rfl) rfl rfl rfl ?_
      intro h5' C5
      have o4 := (UK.off hFk (d3.trans (d1.trans e1)) (d4.trans (d2.trans e2))).1
      refine assignInOrder_cons (kas_attr ?_)
      repeat walk_at "m.s"
      walk_at "m.uset"
      intro h6 news6 C6 U6 ch6
      refine assignInOrder_cons (kas_attr ?_)
      repeat walk_at "m.s"
      walk_at "m.uset"
      intro h7 news7 q7 d5 d6 C7 U7 ch7
      refine assignInOrder_nil ?_
      repeat walk_at "m.s"
      exact ⟨ts.length, hn, _, _, _, news7, q7, hh', k', nq', es', kids', i', false, _, ts, _, _, rfl, by assumption, ⟨rfl, trivial⟩, U7, (a5.ch ch6 o4).ch ch7 o4, (fun z => nomatch z), ((ch4'.step ch6 (by simp [d3, d1, e1])).step ch7 (by simp [d3, d1, e1])), d5.trans (d3.trans (d1.trans e1)), d6.trans (d4.trans (d2.trans e2)), rfl⟩
    · cases ts with
      | cons t ts => exact absurd hlt (by simp)
      | nil =>
      repeat walk_at "m.s"
      walk_at "m.uset"
      intro h4 news4 C4 U4 ch4
      repeat walk_at "m.s"
      walk_at "m.uset"
      intro h5' news5 q5 d3 d4 C5 U5 ch5
      repeat walk_at "m.s"
      walk_at "m.end"
      exact fun Cc => k0 (a3.done hres) _ _ news5 q5 Cc ⟨_, _, _, U5⟩ ((ch3'.step ch4 (by simp [d1, e1])).step ch5 (by simp [d1, e1])) (d3.trans (d1.trans e1)) (d4.trans (d2.trans e2))
end

-- U6
section
variable {w : World} {f : Fm} {m : PySem.Str → Option Value} {news : List (Addr × Obj)} {h : Heap} {E : Value → Shared → Prop}
  {g : Array GenState} {d : Drawn} {tk : Nat} {o : OsState} {Q : Value → Shared → Prop}
variable {c s cr : Addr} {q q1 : UK} {sq : SK} {kid : Kid} {T H hh0 : Nat} {FP : List Addr} {r : List Int} {node pk : Value} {i : Int} {rc inc pr : Bool} {ts : List Addr}
theorem c_newcursor (C : Cx w f m news h) (hd : f.dp + 3 < 1000)
    (k : ∀ h' tk' x q news', Cx w f m news' h' → CurIn w.params news' x q s .none 0 false true [] .none false → (∀ p ∈ news, p ∈ news') → (∀ b ∈ [x, q.dc, q.pl], ∀ y, (b, y) ∉ news) → Q (.ref x) ⟨h', g, d, tk', o⟩) :
    wpAny (MM w) (AR f) (call (.ref 516) [.ref s]) Q E ⟨h, g, d, tk, o⟩ := by
  refine' call_cls (K := Mine.hd.heap_39 w.params) C.F C.X C.N ?k4 ?k5 ?k6 ?_
  (case k4 => k_is)
  (case k5 => k_is)
  (case k6 => k_is)
  intro x dx h₁ F₁ N₁ l1 l2
  have C₁ := C.to F₁ N₁
  have hu := C.u
  show codeAny (MM w) { handled := none, depth := f.dp + 1, frames := some (f.env :: f.outer), guards := f.gd, units := f.un + 1 } _ _ ⟨h₁, g, d, tk, o⟩
  refine' enter_code (binds := [("self", .ref x), ("btree", .ref s)]) C₁ ?k6 ?k7 ?kd ?ku ?k9 ?kB ?_ ?c2 ?c3 ?c4 ?c5
  (case k6 => k_is); (case k7 => k_is); (case kd => omega); (case ku => omega); (case k9 => exact rfl); (case kB => exact rfl); (case c2 => exact rfl); (case c3 => exact rfl); (case c4 => exact rfl); (case c5 => decide)
  intro h₀' L' h' C'
  repeat walk_at "m.s"
  walk_at "m.setU"
  repeat walk_at "m.s"
  walk_at "m.setU"
  repeat walk_at "m.s"
  walk_at "m.setU"
  repeat walk_at "m.s"
  walk_at "m.setU"
  repeat walk_at "m.s"
  walk_at "m.setU"
  repeat walk_at "m.s"
  rename_i le _ _ l4
  have n1 := ne_above l4 (D := x) (by walk_at "m.mem")
  have n2 := ne_above l4 (D := dx) (by walk_at "m.mem")
  have q1 : ∀ p ∈ news, p.1 < le := fun p hp => l4 p (by simp [hp])
  walk_at "m.setU"
  repeat walk_at "m.s"
  walk_at "m.setU"
  repeat walk_at "m.s"
  walk_at "m.setU"
  repeat walk_at "m.s"
  walk_at "m.setU"
  repeat walk_at "m.s"
  show Lv _ _ _ _ _ _ _ _ _ _
  refine Lv.intro (by walk_at "m.C") (fun Cc => ⟨rfl, ?_⟩)
  have q3 : ∀ p ∈ news, p.1 < x := fun p hp => Nat.lt_trans (l1 p hp) l2
  refine k _ _ x ⟨dx, le, 0, _, _, _, _, _, _, _, _, _, _⟩ _ Cc ⟨.tail _ (.head _), .tail _ (.tail _ (.head _)), .head _⟩ (fun p hp => .tail _ (.tail _ (.tail _ hp))) ?_
  intro b hb y hy
  simp only [List.mem_cons, List.not_mem_nil, or_false] at hb
  rcases hb with rfl | rfl | rfl
  · exact Nat.lt_irrefl _ (q3 _ hy)
  · exact Nat.lt_irrefl _ (l1 _ hy)
  · exact Nat.lt_irrefl _ (q1 _ hy)
theorem c_cursor (C : Cx w f m news h) (hd : f.dp + 4 < 1000)
    (k : ∀ h' tk' x q news', Cx w f m news' h' → CurIn w.params news' x q s .none 0 false true [] .none false → (∀ p ∈ news, p ∈ news') → (∀ b ∈ [x, q.dc, q.pl], ∀ y, (b, y) ∉ news) → Q (.ref x) ⟨h', g, d, tk', o⟩) :
    wpAny (MM w) (AR f) (call (.ref 626) [.ref s]) Q E ⟨h, g, d, tk, o⟩ := by
  refine' enter (binds := [("self", .ref s)]) C ?k6 ?k7 ?kd ?k9 ?kB ?_ ?c2 ?c3 ?c4 ?c5
  (case k6 => k_is); (case k7 => k_is); (case kd => omega); (case k9 => exact rfl); (case kB => exact rfl); (case c2 => exact rfl); (case c3 => exact rfl); (case c4 => exact rfl); (case c5 => decide)
  intro h₀' L' h' C'
  clear C
  repeat walk_at "m.s"
  refine c_newcursor (by walk_at "m.C") (by walk_at "m.dp") ?_
  intro h1 tk1 x q1 news1 C1 U1 sb fr
  repeat walk_at "m.s"
  walk_at "m.end"
  exact fun Cc => k _ _ x q1 news1 Cc U1 sb fr
theorem c_seek_first (C : Cx w f m news h) (U : CurIn w.params news c q s node i rc inc ts pk pr) (hd : f.dp + 1 < 1000)
    (k : ∀ h' tk' q' news', Cx w f m news' h' → CurOut w.params news' c q' s 0 → Ch news q.fp news' q'.fp → Q .none ⟨h', g, d, tk', o⟩) :
    wpAny (MM w) (AR f) (call (.ref 506) [.ref c]) Q E ⟨h, g, d, tk, o⟩ := by
  refine' enter (binds := [("self", .ref c)]) C ?k6 ?k7 ?kd ?k9 ?kB ?_ ?c2 ?c3 ?c4 ?c5
  (case k6 => k_is); (case k7 => k_is); (case kd => omega); (case k9 => exact rfl); (case kB => exact rfl); (case c2 => exact rfl); (case c3 => exact rfl); (case c4 => exact rfl); (case c5 => decide)
  intro h₀' L' h' C'
  clear C
  repeat walk_at "m.s"
  walk_at "m.uset"
  intro h1 news1 C1 U1 ch1
  repeat walk_at "m.s"
  walk_at "m.uset"
  intro h2 news2 q2 d1 d2 C2 U2 ch2
  repeat walk_at "m.s"
  walk_at "m.uset"
  intro h3 news3 C3 U3 ch3
  repeat walk_at "m.s"
  walk_at "m.uset"
  intro h4 news4 C4 U4 ch4
  repeat walk_at "m.s"
  have sb := Cx.top ‹Cx w _ _ (_ :: news4) _›
  have lb := ‹∀ p ∈ news4, p.1 < _›
  refine us_pl (by walk_at "m.C") (U4.mono sb) List.mem_cons_self ?_
  intro h5 news5 q5 d3 d4 C5 U5 ch5
  repeat walk_at "m.s"
  walk_at "m.uset"
  intro h6 news6 C6 U6 ch6
  repeat walk_at "m.s"
  walk_at "m.uset"
  intro h7 news7 C7 U7 ch7
  repeat walk_at "m.s"
  walk_at "m.end"
  have c0 : Ch news q.fp news4 q.fp := (((Ch.refl.step ch1 (by simp)).step ch2 (by simp)).step ch3 (by simp [d1])).step ch4 (by simp [d1])
  refine fun Cc => k _ _ q5 news7 Cc ⟨_, _, _, U7⟩ ((((c0.push lb _).step ch5 (by simp [d1])).step ch6 (by simp [d3, d1])).step ch7 (by simp [d3, d1]) |>.to ?_)
  intro b hb
  simp only [List.mem_cons, List.not_mem_nil, or_false] at hb
  rcases hb with rfl | rfl
  · left; simp [d3, d1]
  · left; simp [d4]
theorem c_seek_last (C : Cx w f m news h) (U : CurIn w.params news c q s node i rc inc ts pk pr) (hd : f.dp + 1 < 1000)
    (k : ∀ h' tk' q' news', Cx w f m news' h' → CurOut w.params news' c q' s 1 → Ch news q.fp news' q'.fp → Q .none ⟨h', g, d, tk', o⟩) :
    wpAny (MM w) (AR f) (call (.ref 513) [.ref c]) Q E ⟨h, g, d, tk, o⟩ := by
  refine' enter (binds := [("self", .ref c)]) C ?k6 ?k7 ?kd ?k9 ?kB ?_ ?c2 ?c3 ?c4 ?c5
  (case k6 => k_is); (case k7 => k_is); (case kd => omega); (case k9 => exact rfl); (case kB => exact rfl); (case c2 => exact rfl); (case c3 => exact rfl); (case c4 => exact rfl); (case c5 => decide)
  intro h₀' L' h' C'
  clear C
  repeat walk_at "m.s"
  walk_at "m.uset"
  intro h1 news1 C1 U1 ch1
  repeat walk_at "m.s"
  walk_at "m.uset"
  intro h2 news2 q2 d1 d2 C2 U2 ch2
  repeat walk_at "m.s"
  walk_at "m.uset"
  intro h3 news3 C3 U3 ch3
  repeat walk_at "m.s"
  walk_at "m.uset"
  intro h4 news4 C4 U4 ch4
  repeat walk_at "m.s"
  have sb := Cx.top ‹Cx w _ _ (_ :: news4) _›
  have lb := ‹∀ p ∈ news4, p.1 < _›
  refine us_pl (by walk_at "m.C") (U4.mono sb) List.mem_cons_self ?_
  intro h5 news5 q5 d3 d4 C5 U5 ch5
  repeat walk_at "m.s"
  walk_at "m.uset"
  intro h6 news6 C6 U6 ch6
  repeat walk_at "m.s"
  walk_at "m.uset"
  intro h7 news7 C7 U7 ch7
  repeat walk_at "m.s"
  walk_at "m.end"
  have c0 : Ch news q.fp news4 q.fp := (((Ch.refl.step ch1 (by simp)).step ch2 (by simp)).step ch3 (by simp [d1])).step ch4 (by simp [d1])
  refine fun Cc => k _ _ q5 news7 Cc ⟨_, _, _, U7⟩ ((((c0.push lb _).step ch5 (by simp [d1])).step ch6 (by simp [d3, d1])).step ch7 (by simp [d3, d1]) |>.to ?_)
  intro b hb
  simp only [List.mem_cons, List.not_mem_nil, or_false] at hb
  rcases hb with rfl | rfl
  · left; simp [d3, d1]
  · left; simp [d4]
end

end
section

-- V1
-- A BTreeSet MADE
section
open PySem.Calls
theorem any_load {α : Type} {M : Model} {A : Around} {a : Addr} {part : Option Value} {k : Obj → Sem α} {Q : α → Shared → Prop} {E : Value → Shared → Prop} {s : Shared} {ob : Obj} (ho : s.heap.get? a = some ob) (h : wpAny M A (k ob) Q E s) : wpAny M A (.load a part k) Q E s :=
  fun Γ p hΓ => by rw [Sem.wp_load]; exact ⟨ob, ho, h Γ p hΓ⟩
/-- arguments with two keyword defaults -/
theorem binds_kw2 {s : Shared} {K : Frag} {fd : FuncData} {args : Args} {binds : List (PySem.Str × Value)} {D : Addr} {p1 p2 : Option Value} {ob : Obj} {k1 k2 : Obj → Sem (List (PySem.Str × Value))} (X : K.In s.heap) (ho : K.lookup D = some ob)
    (e1 : bindArgs fd args = .load D p1 k1) (e2 : k1 ob = .load D p2 k2) (e3 : k2 ob = pure binds) : BindsTo s fd args binds := by
  intro M A E Q hq
  rw [e1]
  refine any_load (X _ _ ho) ?_
  rw [e2]
  refine any_load (X _ _ ho) ?_
  rw [e3]
  exact wpAny_pure hq
end
section
variable {w : World} {f : Fm} {m m' : PySem.Str → Option Value} {news news' : List (Addr × Obj)} {h h' : Heap} {E : Value → Shared → Prop}
  {g : Array GenState} {d : Drawn} {tk : Nat} {o : OsState} {nm : PySem.Str} {sc : Scope} {a L : Addr} {cd : Value} {outer : List Env} {h₀ : Heap} {dp un : Nat} {gd : Option (List Code)} {M : Model} {A : Around} {cl : List (PySem.Str × Addr)}
-- names in a frame with cells
theorem x_ld {x : PySem.Str} {pos : Pos} {v : Value} {Q : Value → Shared → Prop} (C : Cx w ⟨envX nm sc L a cd cl, outer, h₀, L, dp, un, gd⟩ m news h) (hv : m x = some v) (k : Q v ⟨h, g, d, tk, o⟩)
    (hl : (envX nm sc L a cd cl).kindOf x = some .local) (hd : (x == ("__debug__" : PySem.Str)) = false) : wpAny M A (eval (.Name x pos) (envX nm sc L a cd cl)) Q E ⟨h, g, d, tk, o⟩ := nameX_L C.F hv k C.hk hl hd
theorem x_ldg {x : PySem.Str} {pos : Pos} {v : Value} {Q : Value → Shared → Prop} (C : Cx w ⟨envX nm sc L a cd cl, outer, h₀, L, dp, un, gd⟩ m news h) (e : nsIn (Mine.hd.heap_39 w.params) mainGlobals x = some (some v)) (k : Q v ⟨h, g, d, tk, o⟩)
    (hx : (envX nm sc L a cd cl).kindOf x = some .globalImplicit) (hd : (x == ("__debug__" : PySem.Str)) = false) : wpAny M A (eval (.Name x pos) (envX nm sc L a cd cl)) Q E ⟨h, g, d, tk, o⟩ := by
  obtain ⟨p, lo, me, mg, mb, T⟩ := C.T
  exact nameX_K C.F C.X (topRead_of T) e k C.hk hx hd
theorem x_ldb {x : PySem.Str} {pos : Pos} {v : Value} {Q : Value → Shared → Prop} (C : Cx w ⟨envX nm sc L a cd cl, outer, h₀, L, dp, un, gd⟩ m news h) (e : nsIn (Mine.hd.heap_39 w.params) mainGlobals x = some none) (hb : bootBuiltins x = some v) (hn : x ≠ "__name__") (k : Q v ⟨h, g, d, tk, o⟩)
    (hx : (envX nm sc L a cd cl).kindOf x = some .globalImplicit) (hd : (x == ("__debug__" : PySem.Str)) = false) : wpAny M A (eval (.Name x pos) (envX nm sc L a cd cl)) Q E ⟨h, g, d, tk, o⟩ := by
  obtain ⟨p, lo, me, mg, mb, T⟩ := C.T
  exact nameX_B C.F C.X (topRead_of T) e hb hn k C.hk hx hd
theorem x_ldc {x : PySem.Str} {pos : Pos} {v : Value} {c : Addr} {ob : Obj} {Q : Value → Shared → Prop} (C : Cx w ⟨envX nm sc L a cd cl, outer, h₀, L, dp, un, gd⟩ m news h) (hc : cl.lookup x = some c) (hm : (c, ob) ∈ news) (hv : ob.data = .cell (some v)) (k : Q v ⟨h, g, d, tk, o⟩)
    (hl : (envX nm sc L a cd cl).kindOf x = some .cell) (hd : (x == ("__debug__" : PySem.Str)) = false) : wpAny M A (eval (.Name x pos) (envX nm sc L a cd cl)) Q E ⟨h, g, d, tk, o⟩ := nameX_C C.N hc hm hv k C.hk hl hd
end
local macro_rules | `(tactic| walk_at "m.name") => `(tactic| first
  | ((with_reducible refine' x_ld ?C ?hv ?_ ?hl ?hd); (case hl => exact rfl); (case C => walk_at "m.C"); (case hv => exact rfl); (case hd => decide))
  | ((with_reducible refine' x_ldg ?C ?e ?_ ?hx ?hd); (case C => walk_at "m.C"); (case e => k_is); (case hx => exact rfl); (case hd => decide))
  | ((with_reducible refine' x_ldb ?C ?e ?hb ?hn ?_ ?hx ?hd); (case C => walk_at "m.C"); (case e => k_is); (case hb => boot_by_name); (case hn => decide); (case hx => exact rfl); (case hd => decide)))
local macro_rules | `(tactic| walk_at "m.kws") => `(tactic| first | with_reducible refine kws_nil ?_ | with_reducible refine kws_cons ?_)
section
variable {w : World} {f : Fm} {m : PySem.Str → Option Value} {news : List (Addr × Obj)} {h : Heap} {E : Value → Shared → Prop}
  {g : Array GenState} {d : Drawn} {tk : Nat} {o : OsState} {Q : Value → Shared → Prop}
/-- a def that closes over __class__, entered -/
theorem enter_super {R : Result → Shared → Prop} {name qual : PySem.Str} {params : Arguments} {body : List Stmt} {scope : Scope} {dV kV doc pm cdv ct oc : Value} {an od : Option Addr} {osl : Array (Option Value)}
    {fa cc : Addr} {args : Args} {un : Nat} {binds : List (PySem.Str × Value)} (C : Cx w f m news h)
    (ho : (Mine.hd.heap_39 w.params).lookup fa = some ⟨oc, od, .func (ksFn name qual params body scope dV kV doc pm an cdv ct cc), osl⟩) (hcd : codeIn (Mine.hd.heap_39 w.params) cdv qual = true) {dp : Nat} (hroom : dp < 1000) (hun : un ≤ 5 * dp + 50)
    (hbind : BindsTo ⟨h, g, d, tk, o⟩ (ksFn name qual params body scope dV kV doc pm an cdv ct cc) args binds)
    (hloc : (binds.all fun x => decide (scope.names.lookup x.1 = some .local)) = true)
    (hb : ∀ h₀' L' h', Cx w ⟨ksEnv qual scope L' fa cdv cc, f.env :: f.outer, h₀', L', dp + 1, un + 3, f.gd⟩ (fun y => binds.reverse.lookup y) news h' → (∀ p ∈ news, p.1 < L') →
      _root_.PySem.wpAt (MM w) (AR ⟨ksEnv qual scope L' fa cdv cc, f.env :: f.outer, h₀', L', dp + 1, un + 3, f.gd⟩) (.func body (ksEnv qual scope L' fa cdv cc)) (execs body (ksEnv qual scope L' fa cdv cc))
        (Lv w f m ⟨ksEnv qual scope L' fa cdv cc, f.env :: f.outer, h₀', L', dp + 1, un + 3, f.gd⟩ g d o fun v s' => R (.ok (.ret v)) s') (fun _ _ => False) ⟨h', g, d, tk + binds.length, o⟩)
    (hcell : ∀ x ∈ scope.names, x.2 ≠ .cell) (hco : scope.isCoroutine = false) (hgen : scope.isGenerator = false) (hk : scope.kind = .function) :
    codeAny (MM w) { handled := none, depth := dp, frames := some (f.env :: f.outer), guards := f.gd, units := un } (.call (.ref fa) args) R ⟨h, g, d, tk, o⟩ := by
  obtain ⟨⟨A₀, base, B⟩, F, X, N, ⟨p, lo, me, mg, mb, T⟩, hf, hke, hu⟩ := C
  refine ks_code_super B F X N T rfl hf hke ho hcd hroom hbind (locs hloc) (fun g' L' h₁ FG F' N' B' X' T' l => ?_) hcell hco hgen hk
  refine ks_wpAt_mono (hb g' L' h₁ ⟨⟨_, _, B'⟩, F', X', N', ⟨p, lo, me, mg, mb, T'⟩, rfl, hk, by show un + 3 ≤ 5 * (dp + 1) + 50; omega⟩ l) (fun fl s' hl => ?_) fun _ _ x => x.elim
  obtain ⟨h', tk', m', news', rfl, C', k⟩ := hl
  exact leaveK_ C'.F C'.N fun F₂ N₂ => k ⟨⟨_, _, B⟩, F₂, X, N₂, ⟨p, lo, me, mg, mb, T⟩, hf, hke, hu⟩
theorem at_MethodKW {M : Model} {A : Around} {c : Code} {env : Env} {ob : Expr} {name : PySem.Str} {apos pos : Pos} {args : List Expr} {kws : List Keyword} {pl : Sem Bool} {s : Shared}
    (h : _root_.PySem.wpAt M A c (attributeBase ob name env (eval ob env)) (fun ov s₁ => wpAny M A (getMethod ov name pl) (fun fx s₂ => wpAny M A (callWith pos fx.1 fx.2 (backTo pos (starEach args env)) (backToKw pos (keywordEach kws env))) Q E s₂) E s₁) E s)
    (he : eval (.Call (.Attribute ob name apos) args kws pos) env = (do
      let ov ← attributeBase ob name env (eval ob env)
      standAt apos.atName
      let (f, first) ← holding [ov] (getMethod ov name pl)
      callWith pos f first (backTo pos (starEach args env)) (backToKw pos (keywordEach kws env)))) :
    _root_.PySem.wpAt M A c (eval (.Call (.Attribute ob name apos) args kws pos) env) Q E s := by
  rw [he]
  refine _root_.PySem.wpAt_bind (_root_.PySem.wpAt_mono h (fun ov s₁ h₁ => _root_.PySem.wpAt_of_wpAny (wpAny_bind (wpAny_standAt (wpAny_bind (wpAny_holding (wpAny_mono h₁ (fun fx s₂ h₂ => ?_) fun _ _ x => x)))))) fun _ _ x => x)
  exact h₂
theorem cw_boundKW {M : Model} {A : Around} {env : Env} {pos : Pos} {q fa : Addr} {self : Value} {kws : List Keyword} {s : Shared} (hf : fnIn (Mine.hd.heap_39 w.params) fa = true) (hall : (backToKw pos (keywordEach kws env)).all (·.1.isSome) = true)
    (h : wpAny M A (evalAll ((backToKw pos (keywordEach kws env)).map (·.2))) (fun ks s₂ => MethP (Mine.hd.heap_39 w.params) q fa self s₂.heap ∧ wpAny M A (call (.ref q) [] (((backToKw pos (keywordEach kws env)).filterMap (·.1)).zip ks)) Q E s₂) E s)
    (hplain : ((backTo pos (starEach [] env)).any (·.1) || (backToKw pos (keywordEach kws env)).any (·.1.isNone)) = false) :
    wpAny M A (callWith pos (.ref q) [] (backTo pos (starEach [] env)) (backToKw pos (keywordEach kws env))) Q E s :=
  callWith_of hplain (keeps_M hf) (evalArgs_kw2_nil hall h)
theorem c_creator {A : Around} (C : Cx w f m news h) (k : ∀ x dx h', Cx w f m ((x, instObj 256 dx) :: (dx, dictOf [] 0) :: news) h' → (∀ p ∈ news, p.1 < dx) → dx < x → Q (.ref x) ⟨h', g, d, tk, o⟩) : wpAny (MM w) A (call (.ref 256) [] []) Q E ⟨h, g, d, tk, o⟩ := by
  refine' call_cls0 (K := Mine.hd.heap_39 w.params) C.F C.X C.N ?k4 ?k5 ?_
  (case k4 => k_is)
  (case k5 => k_is)
  exact fun x dx h' F' N' l1 l2 => k x dx h' (C.to F' N') l1 l2
theorem c_newset {T : Nat} {u : Tok} (C : Cx w f m news h) (h3 : 3 ≤ T) (hd : f.dp + 12 < 1000)
    (k : ∀ h' tk' x q kid news', Cx w f m news' h' → BSet w.params T 0 news' x q kid → kid.ks = [] → (∀ p ∈ news, p ∈ news') → (∀ b ∈ q.fp kid, ∀ y, (b, y) ∉ news) → Q (.ref x) ⟨h', g, d, tk', o⟩) :
    wpAny (MM w) (AR f) (call (.ref 714) [] [("t", .int T u)]) Q E ⟨h, g, d, tk, o⟩ := by
  refine' call_cls (K := Mine.hd.heap_39 w.params) C.F C.X C.N ?k4 ?k5 ?k6 ?_
  (case k4 => k_is)
  (case k5 => k_is)
  (case k6 => k_is)
  intro x dx h₁ F₁ N₁ l1 l2
  have C₁ := C.to F₁ N₁
  have hu := C.u
  show codeAny (MM w) { handled := none, depth := f.dp + 1, frames := some (f.env :: f.outer), guards := f.gd, units := f.un + 1 } _ _ ⟨h₁, g, d, tk, o⟩
  refine' enter_super (binds := [("self", .ref x), ("t", .int T u), ("original", .none), ("in_order", .bool false)]) C₁ ?k6 ?k7 ?kd ?ku ?k9 ?kB ?_ ?c5 ?c2 ?c3 ?c4
  (case k6 => k_is); (case k7 => k_is); (case kd => omega); (case ku => omega); (case k9 => exact binds_kw2 (D := 682) C₁.KX (by k_is) rfl rfl rfl); (case kB => exact rfl); (case c2 => exact rfl); (case c3 => exact rfl); (case c4 => exact rfl); (case c5 => decide)
  intro h₀' L' h2 C' lL
  refine ks_wpAt_execs_cons ?_
  refine ks_wpAt_Expr_any ?_
  refine' at_MethodKW ?_ ?he
  (case he => exact rfl)
  have I2 : InstAt h2 x _ 714 _ := InstAt.of_news C'.N (.head _) (.tail _ (.head _))
  obtain ⟨p, lo, me, mg, mb, T'⟩ := C'.T
  refine ks_node C'.F C'.X C'.N T' (by k_is) rfl rfl I2 (by k_is) rfl (by first | rfl | decide +kernel) (by k_is) (by k_is) (by k_is) (by k_is) (by decide) rfl rfl rfl rfl (by decide +kernel) (by first | boot_by_name | rfl | kernel_rfl) ?_
  intro so h3 F3 N3 l3
  have C3 := C'.to F3 N3
  refine ks_method C3.F C3.X C3.N (.head _) (InstAt.of_news C3.N (.tail _ (.head _)) (.tail _ (.tail _ (.head _)))) (by k_is) (by ks_is) (by k_is) (by decide) ?_
  intro q h4 F4 N4 l4
  have C4 := C3.to F4 N4
  have n1 : so ≠ dx := ne_above l3 (.tail _ (.head _))
  have n2 : q ≠ dx := ne_above l4 (.tail _ (.tail _ (.head _)))
  have n5 : x ≠ dx := Nat.ne_of_gt l2
  clear C' I2 F3 N3 C3 F4 N4 T'
  dsimp only
  refine cw_boundKW (w := w) (self := .ref x) (fa := 548) (by k_is) rfl ?_ rfl
  repeat (first | walk_at "m.kws" | walk_at "m.s")
  refine ⟨methP C4.N (.head _) C4.KX, ?_⟩
  refine call_meth C4.N (.head _) ?_
  refine' enter_code (binds := [("self", .ref x), ("t", .int T u), ("original", .none)]) C4 ?k6 ?k7 ?kd ?ku ?k9 ?kB ?_ ?c2 ?c3 ?c4 ?c5
  (case k6 => k_is); (case k7 => k_is); (case kd => dsimp only; omega); (case ku => dsimp only; omega); (case k9 => exact rfl); (case kB => exact rfl); (case c2 => exact rfl); (case c3 => exact rfl); (case c4 => exact rfl); (case c5 => decide)
  intro h₀5 L5 h5 C5
  repeat walk_at "m.s"
  refine c_creator (by walk_at "m.C") ?_
  intro cx cdx h6 C6 l6 l7
  have n3 : cdx ≠ dx := ne_above l6 (.tail _ (.tail _ (.tail _ (.head _))))
  have n4 : cx ≠ dx := fun e => by
    have := l6 (dx, dictOf [] 0) (.tail _ (.tail _ (.tail _ (.head _))))
    rw [e] at l7
    exact Nat.lt_asymm this l7
  have q0 : ∀ p ∈ news, p.1 < cdx := fun p hp => l6 p (by simp [hp])
  repeat walk_at "m.s"
  walk_at "m.setU"
  repeat walk_at "m.s"
  walk_at "m.setU"
  repeat walk_at "m.s"
  rename_i cl _ _ l9
  have n6 := ne_above l9 (D := dx) (by walk_at "m.mem")
  have q1 : ∀ p ∈ news, p.1 < cl := fun p hp => l9 p (by simp [hp])
  walk_at "m.setU"
  repeat walk_at "m.s"
  walk_at "m.setU"
  repeat walk_at "m.s"
  refine c_newnode (by walk_at "m.C") (by omega) (by dsimp only; omega) ?_
  intro h7 tk7 n qr news7 r1 r2 C7 HX sub fr nd
  have Hi : (x, instObj 714 dx) ∈ news7 := sub _ (by walk_at "m.mem")
  have Hd := sub (dx, dictOf _ 4) (by walk_at "m.mem")
  have Hc : (cl, listOf ([] : List Value).toArray 0) ∈ news7 := sub _ (by walk_at "m.mem")
  have sb7 : ∀ p ∈ news, p ∈ news7 := fun p hp => sub _ (by simp [hp])
  have fd : ∀ b ∈ [n, qr.dn, qr.le, qr.lc], b ≠ dx ∧ b ≠ cl ∧ ∀ y, (b, y) ∉ news := by
    intro b hb
    refine ⟨?_, ?_, fun y hy => fr b hb y (by simp [hy])⟩
    · rintro rfl
      exact fr _ hb _ (by walk_at "m.mem")
    · rintro rfl
      exact fr _ hb _ (by walk_at "m.mem")
  clear sub fr
  repeat walk_at "m.s"
  walk_at "m.oset"
  intro h8 news8 C8 I8 D8 ch8
  repeat walk_at "m.s"
  walk_at "m.oset"
  intro h9 news9 C9 I9 D9 ch9
  repeat walk_at "m.s"
  walk_at "m.end"
  intro Cc
  dsimp only
  refine _root_.PySem.wpAt_of_wpAny ?_
  repeat walk_at "m.s"
  walk_at "m.oset"
  intro h10 news10 C10 I10 D10 ch10
  repeat walk_at "m.s"
  show Lv _ _ _ _ _ _ _ _ _ _
  refine Lv.intro (by walk_at "m.C") (fun Cd => ⟨rfl, ?_⟩)
  show Q (.ref x) _
  have dxn : ∀ p ∈ news, p.1 ∉ [dx] := fun p hp e => Nat.ne_of_lt (l1 p hp) (List.mem_singleton.mp e)
  have f1 : ∀ b ∈ [n, qr.dn, qr.le, qr.lc], b ∉ [dx] := fun b hb e => (fd b hb).1 (List.mem_singleton.mp e)
  have g1 : qr.dn ∉ [dx] := f1 _ (by simp)
  have g2 : qr.le ∉ [dx] := f1 _ (by simp)
  have g3 : qr.lc ∉ [dx] := f1 _ (by simp)
  have g4 : cl ∉ [dx] := fun e => n6 (List.mem_singleton.mp e)
  have H10 := ((HX.ch ch8 g1 g2 g3).ch ch9 g1 g2 g3).ch ch10 g1 g2 g3
  refine k _ _ x ⟨dx, cx, cl, _, _, _, _, _, _, _, u, _, 0, T, 0, n⟩ ⟨n, [], qr.fp ++ fps [], 0⟩ news10 Cd ⟨I10, D10, ch10.keep (ch9.keep (ch8.keep Hc g4) g4) g4, ⟨qr, [], [], ⟨H10, r2, r1, fun e he => (nomatch he), rfl, rfl, rfl, fun _ => rfl, (fun e => nomatch e), fun c hc => (nomatch hc)⟩⟩, rfl, rfl, List.Pairwise.nil, ?_, Nat.zero_le _, fun z => absurd rfl z, rfl⟩ rfl (fun p hp => ch10.keep (ch9.keep (ch8.keep (sb7 p hp) (dxn p hp)) (dxn p hp)) (dxn p hp)) ?_
  · show (dx :: cl :: ([qr.dn, qr.le, qr.lc] ++ [])).Nodup
    obtain ⟨a1, a2, _⟩ := fd qr.dn (by simp)
    obtain ⟨b1, b2, _⟩ := fd qr.le (by simp)
    obtain ⟨c1, c2, _⟩ := fd qr.lc (by simp)
    simp only [List.nodup_cons, List.mem_cons, List.not_mem_nil, or_false, not_or] at nd
    obtain ⟨_, ⟨d1, d2⟩, d3, _⟩ := nd
    simp only [List.append_nil, List.nodup_cons, List.mem_cons, List.not_mem_nil, or_false, not_or, not_false_eq_true, List.nodup_nil, and_true]
    exact ⟨⟨Ne.symm n6, Ne.symm a1, Ne.symm b1, Ne.symm c1⟩, ⟨Ne.symm a2, Ne.symm b2, Ne.symm c2⟩, ⟨d1, d2⟩, d3⟩
  · intro b hb y hy
    rcases List.mem_cons.mp hb with rfl | hb
    · exact Nat.lt_irrefl _ (l1 _ hy)
    · rcases List.mem_cons.mp hb with rfl | hb
      · exact Nat.lt_irrefl _ (q1 _ hy)
      · exact (fd b (by simp [fps] at hb ⊢; rcases hb with h | h | h <;> simp [h])).2.2 y hy
end

local macro_rules | `(tactic| walk_at "m.name") => `(tactic| first
  | ((with_reducible refine' x_ld ?C ?hv ?_ ?hl ?hd); (case hl => exact rfl); (case C => walk_at "m.C"); (case hv => exact rfl); (case hd => decide))
  | ((with_reducible refine' x_ldg ?C ?e ?_ ?hx ?hd); (case C => walk_at "m.C"); (case e => k_is); (case hx => exact rfl); (case hd => decide))
  | ((with_reducible refine' x_ldb ?C ?e ?hb ?hn ?_ ?hx ?hd); (case C => walk_at "m.C"); (case e => k_is); (case hb => boot_by_name); (case hn => decide); (case hx => exact rfl); (case hd => decide)))
local macro_rules | `(tactic| walk_at "m.kws") => `(tactic| first | with_reducible refine kws_nil ?_ | with_reducible refine kws_cons ?_)

end
end
section

-- BA
open Builtin in
section
open PySem PySem.W PySem.Calls PyProof.Rows PySem.Spec PyProof.V
abbrev baObj (b : Array UInt8) : Obj := { cls := .type "bytearray", data := .bytearray b }
theorem ba_slot_getitem : Slot "bytearray" "__getitem__" "bytearray.__getitem__" :=
  .of (owner := "bytearray") (n := "__getitem__") (by rw [typeLookup_type, builtinLookup_eq_fast]; kernel_rfl) (by decide +kernel) (by decide +kernel) (by decide +kernel)
    (by first | exact .inl (by decide +kernel) | exact .inr (by decide +kernel)) (by rw [isSubtype_type]; kernel_rfl)
theorem ba_slot_len : Slot "bytearray" "__len__" "bytearray.__len__" :=
  .of (owner := "bytearray") (n := "__len__") (by rw [typeLookup_type, builtinLookup_eq_fast]; kernel_rfl) (by decide +kernel) (by decide +kernel) (by decide +kernel)
    (by first | exact .inl (by decide +kernel) | exact .inr (by decide +kernel)) (by rw [isSubtype_type]; kernel_rfl)
theorem ba_slot_add : Slot "bytearray" "__add__" "bytearray.__add__" :=
  .of (owner := "bytearray") (n := "__add__") (by rw [typeLookup_type, builtinLookup_eq_fast]; kernel_rfl) (by decide +kernel) (by decide +kernel) (by decide +kernel)
    (by first | exact .inl (by decide +kernel) | exact .inr (by decide +kernel)) (by rw [isSubtype_type]; kernel_rfl)
theorem ba_slot_init : Slot "bytearray" "__init__" "bytearray.__init__" :=
  .of (owner := "bytearray") (n := "__init__") (by rw [typeLookup_type, builtinLookup_eq_fast]; kernel_rfl) (by decide +kernel) (by decide +kernel) (by decide +kernel)
    (by first | exact .inl (by decide +kernel) | exact .inr (by decide +kernel)) (by rw [isSubtype_type]; kernel_rfl)
theorem ba_entry_getitem : entryFor table "bytearray.__getitem__" = some Builtin.«bytearray.__getitem__» := by first | exact entryFor_of_fast (by kernel_rfl) | exact entryFor_of_tree (by kernel_rfl)
theorem ba_entry_len : entryFor table "bytearray.__len__" = some Builtin.«bytearray.__len__» := by first | exact entryFor_of_fast (by kernel_rfl) | exact entryFor_of_tree (by kernel_rfl)
theorem ba_entry_add : entryFor table "bytearray.__add__" = some Builtin.«bytearray.__add__» := by first | exact entryFor_of_fast (by kernel_rfl) | exact entryFor_of_tree (by kernel_rfl)
theorem ba_entry_init : entryFor table "bytearray.__init__" = some Builtin.«bytearray.__init__» := by first | exact entryFor_of_fast (by kernel_rfl) | exact entryFor_of_tree (by kernel_rfl)
theorem ba_args_getitem (a b : Value) : argsOk "bytearray.__getitem__" ⟨[a, b], []⟩ := by unfold argsOk; kernel_rfl
theorem ba_args_len (a : Value) : argsOk "bytearray.__len__" ⟨[a], []⟩ := by unfold argsOk; kernel_rfl
theorem ba_args_add (a b : Value) : argsOk "bytearray.__add__" ⟨[a, b], []⟩ := by unfold argsOk; kernel_rfl
theorem ba_lookup_new : typeLookup (.type "bytearray") "__new__" = pure (some (.builtin "bytearray.__new__")) := by rw [typeLookup_type, builtinLookup_eq_fast]; kernel_rfl
end
section
variable {w : World} {f : Fm} {m : PySem.Str → Option Value} {news : List (Addr × Obj)} {h : Heap} {E : Value → Shared → Prop}
  {g : Array GenState} {d : Drawn} {tk : Nat} {o : OsState} {Q : Value → Shared → Prop}
open Builtin in
variable {A : Around} {a : Addr} {b : Array UInt8}
theorem ba_payload {s : Shared} {M : Model} {Q : Array UInt8 → Shared → Prop} (ho : s.heap.get? a = some (baObj b)) (k : Q b s) : wpAny M A (Builtin.Bytes.payload (.ref a)) Q E s := by
  unfold Builtin.Bytes.payload Builtin.Bytes.payload?
  refine wpAny_bind (wpAny_bind (wpAny_load ho ?_))
  exact wpAny_pure (wpAny_pure k)
theorem ba_len (C : Cx w f m news h) (hm : (a, baObj b) ∈ news) (hz : b.size ≤ 100) (k : Q (.int b.size (tk + 1)) ⟨h, g, d, tk + 2, o⟩) : wpAny (MM w) A (call (.builtin "len") [.ref a]) Q E ⟨h, g, d, tk, o⟩ := by
  have ho := C.get hm
  have hT : (⟨h, g, d, tk, o⟩ : Shared).TypeIs (.ref a) "bytearray" := ⟨_, ho, rfl⟩
  refine call_len_slot (n := b.size) hT ba_slot_len (fun Q' hq => ?_) (by omega) (by omega) k
  refine wpAny_call_entry ba_slot_len hT ba_entry_len ?_ (ba_args_len _)
  show wpAny _ _ (Builtin.Bytes.payload (.ref a) >>= fun r => _) _ _ _
  refine wpAny_bind (ba_payload ho ?_)
  exact wpAny_bind (wpAny_mkInt (wpAny_pure ⟨_, rfl, hq⟩))
end

-- CL
-- CODE ON STACKS WITHOUT CODEC FRAMES (wpC: HeadB0)
def codeC (M : Model) (A : Around) (c : Code) (R : Result → Shared → Prop) (s : Shared) : Prop :=
  ∀ Γ p, Γ.code = c → Γ.Below A → Cln Γ.below → wpCode M Γ R p s
section
variable {α β : Type} {M : Model} {A : Around} {E : Value → Shared → Prop} {s : Shared} {R : Result → Shared → Prop}
theorem codeC_any {c : Code} (h : codeAny M A c R s) : codeC M A c R s := fun Γ p hc hΓ _ => h Γ p hc hΓ
theorem wpC_runValue {c : Code} {Q : Value → Shared → Prop} (hc : codeC M A c (RB Q E) s) : wpC M A (runValue c) Q E s := fun Γ p hΓ h1 h2 => by
  rw [Sem.wp_runValue]
  refine hc _ p rfl (hΓ.enter c none p (by intro x; cases x)) fun x hx => ?_
  rcases List.mem_cons.mp hx with rfl | hx
  · exact h1
  · exact h2 x hx
theorem wpC_call {f : Value} {pos : List Value} {kw : List (PySem.Str × Value)} {Q : Value → Shared → Prop} (hc : codeC M A (.call f ⟨pos, kw⟩) (RB Q E) s) : wpC M A (call f pos kw) Q E s := wpC_runValue hc
theorem codeC_of_tree {c : Code} (hk : okC c = true) (h : wpC M (A.under c) (M.den c) (fun fin s' => match fin with | .done f => R (.ok f) s' | .again c' => c'.quiet = true ∧ codeC M A c' R s') (fun e s' => R (.error e) s') s) : codeC M A c R s := fun Γ p hc hΓ h2 => by
  rw [wpCode_iff_wp, hc]
  refine Sem.wp_mono M Γ _ (fun fin p' s' h' => ?_) (fun _ _ _ h' => h') p s (h Γ p (hc ▸ hΓ.in) (hc ▸ hk) h2)
  cases fin with
  | done f => exact h'
  | again c' => exact ⟨h'.1, h'.2 (Γ.goto c') p' rfl (hΓ.goto c') h2⟩
theorem wpC_holding {vs : List Value} {m : Sem α} {Q : α → Shared → Prop} (h : wpC M A m Q E s) : wpC M A (holding vs m) Q E s :=
  fun Γ p hΓ h1 h2 => by rw [Sem.wp_holding]; exact h Γ p hΓ h1 h2
theorem wpC_standAt {pos : Pos} {Q : Unit → Shared → Prop} (h : Q () s) : wpC M A (standAt pos) Q E s := wpC_any (wpAny_standAt h)
theorem wpC_exported {self : Value} {Q : Bool → Shared → Prop} (h : Q false s) : wpC M A (Builtin.Bytes.exported self) Q E s := fun Γ p hΓ h1 h2 => by
  show Q (((Γ.code, p) :: Γ.below).any _) s
  rw [List.any_eq_false.mpr]
  · exact h
  · intro x hx
    have hx : okC x.1 = true := by
      rcases List.mem_cons.mp hx with rfl | hx
      · exact h1
      · exact h2 x hx
    obtain ⟨c, q⟩ := x
    cases c with
    | builtin id args =>
      have hx : (!Builtin.Bytes.decodersThatHold.contains id && !(["bytearray.__contains__", "bytearray.__mod__", "bytearray.__rmod__", "_struct.pack_into.held", "bytearray.find.held"].contains id)) = true := hx
      simp only [Bool.and_eq_true, Bool.not_eq_true'] at hx
      obtain ⟨x1, x2⟩ := hx
      intro hf
      split at hf
      all_goals (first | (rename_i e; cases e; simp at x2; done) | (rename_i e; cases e; rw [x1] at hf; simp at hf; done) | (cases hf; done) | skip)
    | _ => intro hf; exact Bool.noConfusion hf
end

-- CL2
section
open PySem PySem.W PySem.Calls PyProof.Rows PySem.Spec PyProof.V Builtin
variable {prog : Program} {w : World} {A : Around} {E : Value → Shared → Prop} {s : Shared} {a : Addr} {b : Array UInt8}
theorem ba_lookup_rel : typeLookup (.type "bytearray") "__release_buffer__" = pure (some (.builtin "bytearray.__release_buffer__")) := by rw [typeLookup_type, builtinLookup_eq_fast]; kernel_rfl
theorem ba_sub : isSubtype (.type "bytearray") (.type "bytearray") = pure true := by rw [isSubtype_type]; kernel_rfl
theorem ba_bind1 (v : Value) : Builtin.Bytes.bindOptional "bytearray.__init__" "bytearray" ["source", "encoding", "errors"] [v] [] = pure [some v, none, none] := by kernel_rfl
theorem ba_ownRelease {Q : Bool → Shared → Prop} (ho : s.heap.get? a = some (baObj b)) (k : Q false s) : wpAny (model prog w) A (Builtin.Bytes.ownRelease (.ref a)) Q E s := by
  have hT : s.TypeIs (.ref a) "bytearray" := ⟨_, ho, rfl⟩
  have f1 := ba_lookup_rel
  unfold Builtin.Bytes.ownRelease Builtin.Bytes.slotIsOwn
  refine wpAny_bind (wpAny_bind (wpAny_specialOf hT f1 ?_))
  try dsimp only
  rw [if_neg (by decide +kernel), show ("bytearray.__release_buffer__".dropRight ("__release_buffer__".length + 1)) = "bytearray" by decide +kernel]
  exact wpAny_isInstance hT ba_sub (wpAny_pure k)
theorem ba_write {f : Array UInt8 → Array UInt8} {Q : Unit → Shared → Prop} (ho : s.heap.get? a = some (baObj b)) (hz : (f b).size ≤ 1000) (k : ∀ h', Heap.SameBut a s.heap h' → h'.get? a = some (baObj (f b)) → Q () { s with heap := h' }) : wpAny (model prog w) A (Bytes.write (.ref a) f) Q E s := by
  unfold Bytes.write updateBytearray
  refine wpAny_bind (wpAny_load ho ?_)
  try dsimp only
  have hg : (s.heap.update a (Obj.mapBytearray f)).get? a = some (baObj (f b)) := Heap.get?_update_self _ ho rfl
  refine wpAny_bind (wpAny_update ho (wpAny_lookBehind (s := { s with heap := s.heap.update a (Obj.mapBytearray f) }) hg ?_ (k _ (Heap.SameBut.update _ _ _) hg)))
  show (if (f b).size > sizeLine then some "bytearray:memory" else none) = none
  rw [if_neg (Nat.not_lt.mpr (size_line hz))]
theorem ba_init_int {n : Nat} {t : Tok} {Q : PySem.Fin → Shared → Prop} (ho : s.heap.get? a = some (baObj b)) (hn : n ≤ 100) (hn0 : 0 < n) (k : ∀ h', Heap.SameBut a s.heap h' → h'.get? a = some (baObj (Array.replicate n 0)) → Q (.done (.ret .none)) { s with heap := h' }) : wpC (model prog w) A («bytearray.__init__» ⟨[.ref a, .int n t], []⟩) Q E s := by
  unfold «bytearray.__init__»
  refine wpC_bindA (ba_ownRelease ho ?_)
  try dsimp only
  refine wpC_bindA (wpAny_of_eq (ba_bind1 _) ?_)
  try dsimp only
  refine wpC_bindA (wpAny_pure ?_)
  refine wpC_bindA (wpAny_pure ?_)
  refine wpC_bind ?_
  refine wpC_bind (wpC_exported ?_)
  refine wpC_any (wpAny_bind (wpAny_bind (wpAny_load ho (wpAny_pure (wpAny_pure ?_)))))
  rw [if_neg (by decide)]
  refine wpC_any (wpAny_bind (ba_write ho (Nat.zero_le _) fun h1 hs1 hg1 => ?_))
  obtain ⟨hh, g, d, tk, os⟩ := s
  have hT := typeIs_int (⟨h1, g, d, tk, os⟩ : Shared) (n : Int) t
  have e1 : asStr? (.int (n : Int) t) = pure none := by with_unfolding_all rfl
  rw [e1]
  with_reducible refine wpAny_bind ?_
  refine wpAny_pure ?_
  have c0 : ¬ ((none : Option PySem.Str).isSome = true) := by decide
  have c1 : ¬ ((none : Option Value).isSome = true) := by decide
  simp only [if_neg c0, if_neg c1]
  with_reducible refine wpAny_bind ?_
  refine wpAny_pure ?_
  with_reducible refine wpAny_bind ?_
  with_reducible refine wpAny_specialOf (T := "int") (name := PySem.Str.ofString "__index__") (typeIs_int _ _ _) F.slot_int_index.lookup ?_
  rw [if_pos (by rfl)]
  have e2 : asIndex (.int (n : Int) t) = pure (n : Int) := by with_unfolding_all rfl
  with_reducible refine wpAny_bind ?_
  with_reducible refine wpAny_attempt ?_
  rw [e2]
  with_reducible refine wpAny_pure ?_
  try dsimp only
  have e3 : Bytes.fitsIndex (n : Int) = true := by simp only [Bytes.fitsIndex, Bool.and_eq_true, decide_eq_true_eq]; omega
  have e4 : ¬ ((!Bytes.fitsIndex (n : Int)) = true) := by rw [e3]; decide
  have e5 : ¬ ((n : Int) < 0) := by omega
  have e6 : ¬ (((n : Int) == 2 ^ 63 - 1) = true) := by rw [beq_iff_eq]; omega
  have e7 : ¬ (Bytes.tooLong (n : Int).toNat = true) := by unfold Bytes.tooLong; rw [decide_eq_true_eq, sizeLine_eq]; omega
  have e8 : (n : Int) > 0 := by omega
  rw [if_neg e4, if_neg e5, if_neg e6, if_neg e7]
  with_reducible refine wpAny_bind ?_
  refine wpAny_rule ?_
  rw [if_pos e8]
  with_reducible refine wpAny_bind ?_
  refine ba_write (s := ⟨h1, g, d, tk, os⟩) hg1 (by rw [Array.size_replicate]; omega) fun h2 hs2 hg2 => ?_
  exact wpAny_pure (k h2 (hs1.trans hs2) (by rw [Int.toNat_natCast] at hg2; exact hg2))
theorem bs_lookup_rel : typeLookup (.type "bytes") "__release_buffer__" = pure none := by rw [typeLookup_type, builtinLookup_eq_fast]; kernel_rfl
theorem bs_lookup_buf : typeLookup (.type "bytes") "__buffer__" = pure (some (.builtin "bytes.__buffer__")) := by rw [typeLookup_type, builtinLookup_eq_fast]; kernel_rfl
theorem bs_lookup_index : typeLookup (.type "bytes") "__index__" = pure none := by rw [typeLookup_type, builtinLookup_eq_fast]; kernel_rfl
theorem bs_sub : isSubtype (.type "bytes") (.type "bytes") = pure true := by rw [isSubtype_type]; kernel_rfl
theorem ba_lookup_buf : typeLookup (.type "bytearray") "__buffer__" = pure (some (.builtin "bytearray.__buffer__")) := by rw [typeLookup_type, builtinLookup_eq_fast]; kernel_rfl
theorem bs_slotIsOwn {c : Array UInt8} {t : Tok} {Q : Bool → Shared → Prop} (k : Q true s) : wpAny (model prog w) A (Bytes.slotIsOwn (.bytes c t) "__buffer__") Q E s := by
  unfold Bytes.slotIsOwn
  with_reducible refine wpAny_bind ?_
  refine wpAny_specialOf (T := "bytes") (typeIs_bytes _ _ _) bs_lookup_buf ?_
  try dsimp only
  rw [if_neg (by decide +kernel), show ("bytes.__buffer__".dropRight ("__buffer__".length + 1)) = "bytes" by decide +kernel]
  exact wpAny_isInstance (typeIs_bytes _ _ _) bs_sub k
theorem bs_ownRelease {c : Array UInt8} {t : Tok} {Q : Bool → Shared → Prop} (k : Q false s) : wpAny (model prog w) A (Bytes.ownRelease (.bytes c t)) Q E s := by
  unfold Bytes.ownRelease Bytes.slotIsOwn
  refine wpAny_bind (wpAny_bind (wpAny_specialOf (T := "bytes") (typeIs_bytes _ _ _) bs_lookup_rel (wpAny_pure (wpAny_pure k))))
theorem bs_buffer {c : Array UInt8} {t : Tok} {id : String} {full : Bool} {Q : Option (Array UInt8) → Shared → Prop} (k : Q (some c) s) : wpAny (model prog w) A (Bytes.buffer? id (.bytes c t) full) Q E s := by
  unfold Bytes.buffer?
  with_reducible refine wpAny_bind ?_
  refine wpAny_specialOf (T := "bytes") (typeIs_bytes _ _ _) bs_lookup_buf ?_
  try dsimp only
  with_reducible refine wpAny_bind ?_
  refine bs_slotIsOwn ?_
  rw [if_neg (by decide)]
  with_reducible refine wpAny_bind ?_
  refine wpAny_specialOf (T := "bytes") (typeIs_bytes _ _ _) bs_lookup_buf ?_
  show wpAny _ _ (Bytes.ownRelease (.bytes c t) >>= fun r => _) _ _ _
  with_reducible refine wpAny_bind ?_
  refine bs_ownRelease ?_
  rw [if_neg (by decide)]
  with_reducible refine wpAny_bind ?_
  exact wpAny_of_eq (a := c) rfl (wpAny_pure k)
theorem ba_slotIsOwn {Q : Bool → Shared → Prop} (ho : s.heap.get? a = some (baObj b)) (k : Q true s) : wpAny (model prog w) A (Bytes.slotIsOwn (.ref a) "__buffer__") Q E s := by
  have hT : s.TypeIs (.ref a) "bytearray" := ⟨_, ho, rfl⟩
  unfold Bytes.slotIsOwn
  with_reducible refine wpAny_bind ?_
  refine wpAny_specialOf (T := "bytearray") hT ba_lookup_buf ?_
  try dsimp only
  rw [if_neg (by decide +kernel), show ("bytearray.__buffer__".dropRight ("__buffer__".length + 1)) = "bytearray" by decide +kernel]
  exact wpAny_isInstance hT ba_sub k
theorem ba_buffer {id : String} {full : Bool} {Q : Option (Array UInt8) → Shared → Prop} (ho : s.heap.get? a = some (baObj b)) (k : Q (some b) s) : wpAny (model prog w) A (Bytes.buffer? id (.ref a) full) Q E s := by
  have hT : s.TypeIs (.ref a) "bytearray" := ⟨_, ho, rfl⟩
  unfold Bytes.buffer?
  with_reducible refine wpAny_bind ?_
  refine wpAny_specialOf (T := "bytearray") hT ba_lookup_buf ?_
  try dsimp only
  with_reducible refine wpAny_bind ?_
  refine ba_slotIsOwn ho ?_
  rw [if_neg (by decide)]
  with_reducible refine wpAny_bind ?_
  refine wpAny_specialOf (T := "bytearray") hT ba_lookup_buf ?_
  show wpAny _ _ (Bytes.ownRelease (.ref a) >>= fun r => _) _ _ _
  with_reducible refine wpAny_bind ?_
  refine ba_ownRelease ho ?_
  rw [if_neg (by decide)]
  with_reducible refine wpAny_bind ?_
  exact ba_payload ho (wpAny_pure k)
theorem ba_init_bytes {c : Array UInt8} {t : Tok} {Q : PySem.Fin → Shared → Prop} (ho : s.heap.get? a = some (baObj b)) (hn : c.size ≤ 100) (k : ∀ h', Heap.SameBut a s.heap h' → h'.get? a = some (baObj c) → Q (.done (.ret .none)) { s with heap := h' }) : wpC (model prog w) A («bytearray.__init__» ⟨[.ref a, .bytes c t], []⟩) Q E s := by
  unfold «bytearray.__init__»
  refine wpC_bindA (ba_ownRelease ho ?_)
  try dsimp only
  refine wpC_bindA (wpAny_of_eq (ba_bind1 _) ?_)
  try dsimp only
  refine wpC_bindA (wpAny_pure ?_)
  refine wpC_bindA (wpAny_pure ?_)
  refine wpC_bind ?_
  refine wpC_bind (wpC_exported ?_)
  refine wpC_any (wpAny_bind (wpAny_bind (wpAny_load ho (wpAny_pure (wpAny_pure ?_)))))
  rw [if_neg (by decide)]
  refine wpC_any (wpAny_bind (ba_write ho (Nat.zero_le _) fun h1 hs1 hg1 => ?_))
  obtain ⟨hh, g, d, tk, os⟩ := s
  have e1 : asStr? (.bytes c t) = pure none := by with_unfolding_all rfl
  rw [e1]
  with_reducible refine wpAny_bind ?_
  refine wpAny_pure ?_
  have c0 : ¬ ((none : Option PySem.Str).isSome = true) := by decide
  have c1 : ¬ ((none : Option Value).isSome = true) := by decide
  simp only [if_neg c0, if_neg c1]
  with_reducible refine wpAny_bind ?_
  refine wpAny_pure ?_
  with_reducible refine wpAny_bind ?_
  with_reducible refine wpAny_specialOf (T := "bytes") (name := PySem.Str.ofString "__index__") (typeIs_bytes _ _ _) bs_lookup_index ?_
  simp only [if_neg c1]
  with_reducible refine wpAny_bind ?_
  refine bs_buffer ?_
  try dsimp only
  with_reducible refine wpAny_bind ?_
  refine wpAny_rule ?_
  with_reducible refine wpAny_bind ?_
  refine ba_write (s := ⟨h1, g, d, tk, os⟩) hg1 (by omega) fun h2 hs2 hg2 => ?_
  exact wpAny_pure (k h2 (hs1.trans hs2) hg2)
end

-- CL3
section
open PySem PySem.W PySem.Calls PyProof.Rows PySem.Spec PyProof.V Builtin
variable {prog : Program} {w : World} {A : Around} {E : Value → Shared → Prop} {s : Shared} {a sl : Addr} {b : Array UInt8}
theorem ba_item {i : Int} {ui : Tok} {Q : Value → Shared → Prop} (ho : s.heap.get? a = some (baObj b)) (h0 : 0 ≤ i) (h1 : i < b.size) (hz : b.size ≤ 1000) (k : ∀ c, b[i.toNat]? = some c → Q (.int (c.toNat : Int) s.toks) { s with toks := s.toks + 1 }) : wpAny (model prog w) A (getItem (.ref a) (.int i ui)) Q E s := by
  have hT : s.TypeIs (.ref a) "bytearray" := ⟨_, ho, rfl⟩
  have hl : i.toNat < b.size := by omega
  refine wpAny_getItem_slot hT (by decide) ba_slot_getitem (wpAny_call_entry ba_slot_getitem hT ba_entry_getitem ?_ (ba_args_getitem _ _))
  show wpAny _ _ (Bytes.subscript? (.int i ui) >>= fun r => _) _ _ s
  have e1 : Bytes.fitsIndex i = true := by simp only [Bytes.fitsIndex, Bool.and_eq_true, decide_eq_true_eq]; omega
  have e2 : asIndex (.int i ui) = pure i := by with_unfolding_all rfl
  have e3 : seqIndex? i b.size = some i.toNat := by
    have h2 : ¬ i < 0 := by omega
    simp [seqIndex?, h2, h0, h1]
  with_reducible refine wpAny_bind ?_
  unfold Bytes.subscript?
  with_reducible refine wpAny_bind ?_
  with_reducible refine wpAny_specialOf (T := "int") (name := PySem.Str.ofString "__index__") (typeIs_int _ _ _) F.slot_int_index.lookup ?_
  rw [if_neg (by decide), e2]
  with_reducible refine wpAny_bind ?_
  refine wpAny_pure ?_
  rw [e1, if_neg (by decide)]
  refine wpAny_pure ?_
  show wpAny _ _ (Bytes.payload (.ref a) >>= fun r => _) _ _ s
  refine wpAny_bind (ba_payload ho ?_)
  rw [e3]
  have e4 : b[i.toNat]? = some b[i.toNat] := Array.getElem?_eq_getElem hl
  show wpAny _ _ (match b[i.toNat]? with | some x => _ | none => _) _ _ _
  rw [e4]
  dsimp only
  exact wpAny_bind (wpAny_mkInt (wpAny_pure ⟨_, rfl, k _ e4⟩))
theorem ba_new {Q : Value → Shared → Prop} (hz : b.size ≤ 1000) (k : Q (.ref s.heap.objs.size) { s with heap := s.heap.push (baObj b) }) : wpAny (model prog w) A (Bytes.newBytearray b) Q E s := by
  unfold Bytes.newBytearray
  refine wpAny_newObj_type k ?_
  have := size_line hz
  simp only [sizeOk]
  omega
theorem picked_size {b : Array UInt8} {lo hi : Option Int} : (KBy.picked b lo hi).size ≤ b.size := KBc.size_picked_le b lo hi
theorem ba_fin {lo hi : Option Int} {vl vu : Value} {Q : Value → Shared → Prop} (ho : s.heap.get? a = some (baObj b)) (hp : (KBy.picked b lo hi).size ≤ 1000)
    (go : wpAny (model prog w) A.in1 (sliceIndices vl vu Value.none b.size) (fun r s' => r = sliceBounds lo hi none b.size ∧ s' = s) (fun _ _ => False) s)
    (k : Q (.ref s.heap.objs.size) { s with heap := s.heap.push (baObj (KBy.picked b lo hi)) }) :
    wpAny (model prog w) A.in1 (match (vl, vu, Value.none) with | (lo, hi, st) => do
      let b ← Bytes.payload (.ref a)
      let (start, stop, step) ← sliceIndices lo hi st b.size
      ret (← Bytes.newBytearray (Bytes.sliced b start stop step))) (fun fin s' => ∃ v, fin = .done (.ret v) ∧ Q v s') E s := by
  dsimp only
  with_reducible refine wpAny_bind ?_
  refine ba_payload ho ?_
  with_reducible refine wpAny_bind ?_
  refine wpAny_mono go (fun r s' hr => ?_) fun _ _ e => e.elim
  obtain ⟨hr1, hr2⟩ := hr
  rw [hr1, hr2]
  show wpAny _ _ (Bytes.newBytearray (KBy.picked b lo hi) >>= fun r => ret r) _ _ _
  with_reducible refine wpAny_bind ?_
  exact ba_new hp (wpAny_pure ⟨_, rfl, k⟩)
theorem ba_slice {l u : Value} {lo hi : Option Int} {Q : Value → Shared → Prop} (ho : s.heap.get? a = some (baObj b)) (hs : s.heap.IsSliceOf sl l u .none) (hl : IsPart l lo) (hu : IsPart u hi) (hz : b.size ≤ 1000)
    (k : Q (.ref s.heap.objs.size) { s with heap := s.heap.push (baObj (KBy.picked b lo hi)) }) : wpAny (model prog w) A (getItem (.ref a) (.ref sl)) Q E s := by
  have hT : s.TypeIs (.ref a) "bytearray" := ⟨_, ho, rfl⟩
  refine wpAny_getItem_slot hT (by decide) ba_slot_getitem (wpAny_call_entry ba_slot_getitem hT ba_entry_getitem ?_ (ba_args_getitem _ _))
  obtain ⟨so, hso, hc, hd⟩ := hs
  have hTs : s.TypeIs (.ref sl) "slice" := ⟨so, hso, hc⟩
  show wpAny _ _ (Bytes.subscript? (.ref sl) >>= fun r => _) _ _ s
  with_reducible refine wpAny_bind ?_
  unfold Bytes.subscript?
  refine wpAny_bind (wpAny_specialOf hTs slice_no_index (wpAny_pure ?_))
  refine wpAny_bind (wpAny_typeOf hTs ?_)
  show wpAny _ _ (Bytes.sliceParts (.ref sl) >>= fun r => _) _ _ s
  with_reducible refine wpAny_bind ?_
  unfold Bytes.sliceParts
  refine wpAny_bind (wpAny_field (x := .none) hso hd rfl ?_)
  kby_none
  refine wpAny_ite (KBy.ite_no (show ¬ ((Value.none == rawInt 0) = true) from Bool.false_ne_true) ?_)
  refine wpAny_bind (wpAny_field (x := l) hso hd rfl ?_)
  have hp : (KBy.picked b lo hi).size ≤ 1000 := Nat.le_trans picked_size hz
  cases hl with
  | none =>
    kby_none
    cases hu with
    | none => (refine wpAny_bind (wpAny_field (x := .none) hso hd rfl ?_)); kby_none; refine wpAny_pure ?_; exact ba_fin ho hp (wpAny_of_eq (sliceIndices_raw none none none b.size (fun e => nomatch e)) ⟨rfl, rfl⟩) k
    | int _ _ => (refine wpAny_bind (wpAny_field (x := .int _ _) hso hd rfl ?_)); kby_int; refine wpAny_pure ?_; exact ba_fin ho hp (wpAny_of_eq (sliceIndices_raw none (some _) none b.size (fun e => nomatch e)) ⟨rfl, rfl⟩) k
  | int _ _ =>
    kby_int
    cases hu with
    | none => (refine wpAny_bind (wpAny_field (x := .none) hso hd rfl ?_)); kby_none; refine wpAny_pure ?_; exact ba_fin ho hp (wpAny_of_eq (sliceIndices_raw (some _) none none b.size (fun e => nomatch e)) ⟨rfl, rfl⟩) k
    | int _ _ => (refine wpAny_bind (wpAny_field (x := .int _ _) hso hd rfl ?_)); kby_int; refine wpAny_pure ?_; exact ba_fin ho hp (wpAny_of_eq (sliceIndices_raw (some _) (some _) none b.size (fun e => nomatch e)) ⟨rfl, rfl⟩) k
end

-- CL4
section
open PySem PySem.W PySem.Calls PyProof.Rows PySem.Spec PyProof.V Builtin
variable {prog : Program} {w : World} {A : Around} {E : Value → Shared → Prop} {s : Shared} {a a2 : Addr} {b c : Array UInt8}
theorem ba_radd : typeLookup (.type "bytearray") (dunderR "add") = pure none := by rw [typeLookup_type, builtinLookup_eq_fast]; kernel_rfl
theorem ba_noFill : fillsNumberSlot (.type "bytearray") "add" = pure false := PySem.fillsNumberSlot_seq (id := "bytearray.__add__") (r := none) (by rw [typeLookup_type, builtinLookup_eq_fast]; kernel_rfl) (by decide +kernel) ba_radd (by rfl)
theorem bs_noFill : fillsNumberSlot (.type "bytes") "add" = pure false := PySem.fillsNumberSlot_seq (id := "bytes.__add__") (r := none) (by rw [typeLookup_type, builtinLookup_eq_fast]; kernel_rfl) (by decide +kernel) (by rw [typeLookup_type, builtinLookup_eq_fast]; kernel_rfl) (by rfl)
theorem ba_seq : seqSlot? (.type "bytearray") "__add__" = pure (some (.builtin "bytearray.__add__")) := PySem.seqSlot_of (by rw [typeLookup_type, builtinLookup_eq_fast]; kernel_rfl) (by decide +kernel)
theorem ba_add_run {other : Value} {Q : Value → Shared → Prop} (ho : s.heap.get? a = some (baObj b)) (hz : b.size + c.size ≤ 1000)
    (hb : ∀ {A : Around} {Q : Option (Array UInt8) → Shared → Prop} {E : Value → Shared → Prop}, Q (some c) s → wpAny (model prog w) A (Bytes.buffer? "bytearray.__add__" other) Q E s)
    (k : Q (.ref s.heap.objs.size) { s with heap := s.heap.push (baObj (b ++ c)) }) : wpAny (model prog w) A (call (.builtin "bytearray.__add__") [.ref a, other]) Q E s := by
  have hT : s.TypeIs (.ref a) "bytearray" := ⟨_, ho, rfl⟩
  refine wpAny_call_entry ba_slot_add hT ba_entry_add ?_ (ba_args_add _ _)
  show wpAny _ _ (Bytes.buffer? "bytearray.__add__" (.ref a) >>= fun r => _) _ _ s
  with_reducible refine wpAny_bind ?_
  refine ba_buffer ho ?_
  dsimp only
  with_reducible refine wpAny_bind ?_
  unfold Bytes.bufferQuiet?
  with_reducible refine wpAny_bind ?_
  with_reducible refine wpAny_attempt ?_
  refine hb ?_
  dsimp only
  refine wpAny_pure ?_
  dsimp only
  have e7 : ¬ (Bytes.tooLong (b.size + c.size) = true) := by unfold Bytes.tooLong; rw [decide_eq_true_eq, sizeLine_eq]; omega
  rw [if_neg e7]
  with_reducible refine wpAny_bind ?_
  exact ba_new (by rw [Array.size_append]; exact hz) (wpAny_pure ⟨_, rfl, k⟩)
theorem ba_add_bytes {t : Tok} {Q : Value → Shared → Prop} (ho : s.heap.get? a = some (baObj b)) (hz : b.size + c.size ≤ 1000)
    (k : Q (.ref s.heap.objs.size) { s with heap := s.heap.push (baObj (b ++ c)) }) : wpAny (model prog w) A (binaryOp .Add (.ref a) (.bytes c t)) Q E s := by
  have hT : s.TypeIs (.ref a) "bytearray" := ⟨_, ho, rfl⟩
  unfold binaryOp
  refine wpAny_holding ?_
  have h1 : wpAny (model prog w) A (binaryOp1 "add" (.ref a) (.bytes c t)) (fun r s' => r = none ∧ s' = s) E s := by
    have e : (Value.type "bytearray" == Value.type "bytes") = false := by decide +kernel
    simp only [binaryOp1]
    refine wpAny_bind (wpAny_typeOf hT (wpAny_bind (wpAny_typeOf (typeIs_bytes _ _ _) (wpAny_bind (wpAny_of_eq ba_noFill ?_)))))
    simp only [e, bs_noFill, pure_bind, Bool.false_and, Bool.false_eq_true, if_false]
    exact wpAny_pure ⟨rfl, rfl⟩
  refine wpAny_bind (wpAny_mono h1 (fun r s' hr => ?_) fun _ _ x => x)
  obtain ⟨rfl, rfl⟩ := hr
  refine wpAny_bind (wpAny_typeOf hT ?_)
  refine wpAny_bind (wpAny_of_eq ba_seq ?_)
  exact wpAny_bind (wpAny_rule (ba_add_run ho hz (fun q => bs_buffer q) k))
theorem ba_add_ba {Q : Value → Shared → Prop} (ho : s.heap.get? a = some (baObj b)) (ho2 : s.heap.get? a2 = some (baObj c)) (hz : b.size + c.size ≤ 1000)
    (k : Q (.ref s.heap.objs.size) { s with heap := s.heap.push (baObj (b ++ c)) }) : wpAny (model prog w) A (binaryOp .Add (.ref a) (.ref a2)) Q E s :=
  wpAny_binaryOp_concat (T := "bytearray") ⟨_, ho, rfl⟩ ⟨_, ho2, rfl⟩ ba_noFill ba_seq (ba_add_run ho hz (fun q => ba_buffer ho2 q) k)
end

-- CL5
section
open PySem PySem.W PySem.Calls PyProof.Rows PySem.Spec PyProof.V Builtin
variable {prog : Program} {w : World} {A : Around} {E : Value → Shared → Prop} {s : Shared} {a a2 : Addr} {b c : Array UInt8}
theorem ba_no_bytes : typeLookup (.type "bytearray") "__bytes__" = pure none := by rw [typeLookup_type, builtinLookup_eq_fast]; kernel_rfl
theorem ba_no_index : typeLookup (.type "bytearray") "__index__" = pure none := by rw [typeLookup_type, builtinLookup_eq_fast]; kernel_rfl
theorem ba_bytes_meets (b : Array UInt8) (a : Addr) : Meets («bytes.__new__» ⟨[.type "bytes", .ref a], []⟩) (fun _ R s => s.heap.get? a = some (baObj b) ∧ b.size ≤ 1000 ∧ ∀ t k, R (.ok (.ret (.bytes b t))) { s with toks := k }) := by
  refine .of_wp fun prog w A R s hS => ?_
  obtain ⟨ho, hz, h⟩ := hS
  have hT : s.TypeIs (.ref a) "bytearray" := ⟨_, ho, rfl⟩
  unfold «bytes.__new__»
  refine wpAny_bind (wpAny_of_eq (a := true) rfl ?_)
  refine bm_if_false rfl ?_
  refine wpAny_bind (wpAny_of_eq F.bm_sub ?_)
  refine bm_if_false rfl ?_
  refine wpAny_bind (wpAny_of_eq (F.bm_bind _) ?_)
  refine wpAny_bind (wpAny_of_eq (a := ()) rfl ?_)
  refine wpAny_bind (wpAny_of_eq (a := ()) rfl ?_)
  refine bm_if_false rfl ?_
  refine wpAny_bind (wpAny_specialOf hT ba_no_bytes ?_)
  refine wpAny_bind (wpAny_bind ?_)
  show wpAny _ _ (load a >>= _) _ _ _
  refine wpAny_bind (wpAny_load ho ?_)
  refine wpAny_pure (wpAny_pure ?_)
  refine bm_if_false rfl ?_
  refine wpAny_bind (wpAny_specialOf hT ba_no_index ?_)
  refine bm_if_true rfl ?_
  show wpAny _ _ (Bytes.buffer? "bytes.__new__" (.ref a) true >>= fun r => _) _ _ _
  with_reducible refine wpAny_bind ?_
  refine ba_buffer ho ?_
  dsimp only
  with_reducible refine wpAny_bind ?_
  refine wpAny_rule ?_
  with_reducible refine wpAny_bind ?_
  refine wpAny_mkBytes ?_ (size_line hz)
  show wpAny _ _ (if (Value.type "bytes" == Value.type "bytes") = true then _ else _) _ _ _
  refine bm_if_true (by decide) ?_
  first
    | exact wpAny_pure ⟨_, rfl, h _ _⟩
    | exact wpAny_pure (h _ _)
    | exact wpAny_bind (wpAny_pure (wpAny_pure ⟨_, rfl, h _ _⟩))
theorem ba_bytes {Q : Value → Shared → Prop} (ho : s.heap.get? a = some (baObj b)) (hz : b.size ≤ 1000) (k : ∀ t tk, Q (.bytes b t) { s with toks := tk }) : wpAny (model prog w) A (call (.type "bytes") [.ref a]) Q E s :=
  callType_new F.bm_called (by decide) (F.bm_typeCall _) (F.bm_newCall _) (fun obj => by unfold argsOk; kernel_rfl) F.bm_entry (ba_bytes_meets b a)
    ⟨ho, hz, fun t tk => ⟨typeIs_bytes _ _ _, k t tk⟩⟩
end

-- CL6
section
open PySem PySem.W PySem.Calls PyProof.Rows PySem.Spec PyProof.V Builtin
variable {prog : Program} {w : World} {A : Around} {E : Value → Shared → Prop} {s : Shared} {a a2 : Addr} {b c : Array UInt8} {R : Result → Shared → Prop}
theorem codeC_mono {M : Model} {c : Code} {R R' : Result → Shared → Prop} (h : codeC M A c R s) (hR : ∀ r s, R r s → R' r s) : codeC M A c R' s := fun Γ p hc hΓ h2 => wpCode_mono hR (h Γ p hc hΓ h2)
theorem codeC_builtin {id : String} {args : Args} {b : Builtin} (hk : okC (.builtin id args) = true) (hb : entryFor table id = some b)
    (h : wpC (model prog w) (A.under (.builtin id args)) (b args) (fun fin s' => match fin with | .done f => R (.ok f) s' | .again c' => c'.quiet = true ∧ codeC (model prog w) A c' R s') (fun e s' => R (.error e) s') s) :
    codeC (model prog w) A (.builtin id args) R s := by
  refine codeC_of_tree hk ?_
  show wpC _ _ (match entryFor table id with | some b => b args | none => unsupported ((withoutEnding? id "#data").getD id)) _ _ s
  rw [hb]; exact h
theorem codeC_call_builtin {id : String} {args : Args} {b : Builtin} (hk : okC (.builtin id args) = true) (hq : plainId id = true) (hb : entryFor table id = some b)
    (h : wpAny (model prog w) A.in1 (checkBuiltinCall id args) (fun _ s₁ => wpC (model prog w) A.in1 (b args) (fun fin s' => match fin with | .done f => R (.ok f) s' | .again c' => c'.quiet = true ∧ codeC (model prog w) A c' R s') (fun e s' => R (.error e) s') s₁) (fun e s' => R (.error e) s') s) :
    codeC (model prog w) A (.call (.builtin id) args) R s := by
  refine codeC_of_tree rfl ?_
  show wpC _ A.in1 (do checkBuiltinCall id args; again (.builtin id args)) _ _ s
  refine wpC_bindA (wpAny_mono h (fun _ s₁ h₁ => wpC_pure ⟨plainId_quiet hq args, codeC_builtin hk hb ?_⟩) fun _ _ x => x)
  rw [Around.under_plainId hq args]; exact h₁
theorem ba_mro : mroOf (.type "bytearray") = pure [.type "bytearray", .type "object"] := by rw [mroOf_type]; kernel_rfl
theorem ba_called : TypeCalled "bytearray" "bytearray.__new__" "bytearray.__init__" :=
  ⟨by decide +kernel, by decide +kernel, ⟨_, _, ba_mro⟩, madeBy_type ba_mro ba_lookup_new (by decide +kernel), by decide +kernel, by rw [isSubtype_type]; kernel_rfl, ba_slot_init⟩
theorem ba_typeCall (a : Value) : checkTypeCall "bytearray" ⟨[a], []⟩ = pure () := by kernel_rfl
theorem ba_newCall (a : Value) : checkBuiltinCall "bytearray.__new__" ⟨[.type "bytearray", a], []⟩ = pure () := by kernel_rfl
theorem ba_entry_new : entryFor table "bytearray.__new__" = some Builtin.«list.__new__» := entryFor_alias (id' := "list.__new__") (by kernel_rfl) (by decide +kernel) (by decide +kernel) (by kernel_rfl)
theorem ba_plain_new : plainId "bytearray.__new__" = true := by decide +kernel
set_option maxRecDepth 1000000 in
theorem ba_owner : ("bytearray.__new__".splitOn ".__new__").headD "" = "bytearray" := by simp +decide [String.splitOn, String.splitOnAux]
theorem code_ba_new (a : Value) {Q₁ : Value → Shared → Prop} (h : Q₁ (.ref s.heap.objs.size) { s with heap := s.heap.push (baObj #[]) }) :
    codeAny (model prog w) A (.call (.builtin "bytearray.__new__") ⟨[.type "bytearray", a], []⟩) (wants Q₁ E) s := by
  refine codeAny_of_tree ?_
  show wpAny _ A.in1 (do checkBuiltinCall "bytearray.__new__" ⟨[.type "bytearray", a], []⟩; again (.builtin "bytearray.__new__" ⟨[.type "bytearray", a], []⟩)) _ _ s
  refine wpAny_bind (wpAny_of_eq (ba_newCall a) (wpAny_pure ⟨plainId_quiet ba_plain_new _, codeAny_builtin_stack ba_entry_new rfl fun p st => ?_⟩))
  rw [Around.under_plainId ba_plain_new _]
  have hsub := ba_sub
  have hown := ba_owner
  obtain ⟨hp, g, d, tk, os⟩ := s
  simp only [hown]
  wp_walk
  exact h
theorem okC_init (args : Args) : okC (.builtin "bytearray.__init__" args) = true := by
  show (!Builtin.Bytes.decodersThatHold.contains "bytearray.__init__" && !(["bytearray.__contains__", "bytearray.__mod__", "bytearray.__rmod__", "_struct.pack_into.held", "bytearray.find.held"].contains "bytearray.__init__")) = true
  decide +kernel
theorem ba_make {x : Value} {Q : Value → Shared → Prop} (hx : argsOk "bytearray.__init__" ⟨[.ref s.heap.objs.size, x], []⟩)
    (k : ∀ {A : Around} {Q : PySem.Fin → Shared → Prop} {E : Value → Shared → Prop}, (∀ h', Heap.SameBut s.heap.objs.size (s.heap.push (baObj #[])) h' → h'.get? s.heap.objs.size = some (baObj b) → Q (.done (.ret .none)) { s with heap := h' }) → wpC (model prog w) A («bytearray.__init__» ⟨[.ref s.heap.objs.size, x], []⟩) Q E { s with heap := s.heap.push (baObj #[]) })
    (q : ∀ h', Heap.SameBut s.heap.objs.size (s.heap.push (baObj #[])) h' → h'.get? s.heap.objs.size = some (baObj b) → Q (.ref s.heap.objs.size) { s with heap := h' }) : wpC (model prog w) A (call (.type "bytearray") [x]) Q E s := by
  have ft := ba_called
  have hmro := ba_mro
  have hmade := ft.made
  have hsub := ft.sub
  have hct := ba_typeCall x
  refine wpC_call (codeC_of_tree rfl ?_)
  show wpC _ _ (callAny (.type "bytearray") _) _ _ _
  refine wpC_pure ⟨Code.quiet_builtin _ (by decide +kernel), codeC_builtin rfl F.entry_type_call ?_⟩
  rw [Around.under_plain (weight_type_call_type "bytearray" [x] []) rfl]
  have h1 := ft.notType
  have h2 := ft.canCreate
  unfold «type.__call__»
  simp only [h1, h2, Bool.false_eq_true, if_false]
  refine wpC_bindA (wpAny_of_eq hct ?_)
  refine wpC_bindA (wpAny_of_eq hmro ?_)
  rw [if_neg (by decide)]
  refine wpC_bindA (wpAny_of_eq hmade ?_)
  dsimp only
  refine wpC_bindA (wpAny_pure ?_)
  refine wpC_bindA (wpAny_holding (wpAny_call (codeAny_mono (code_ba_new (E := fun _ _ => False) x (Q₁ := fun v s' => v = .ref s.heap.objs.size ∧ s' = { s with heap := s.heap.push (baObj #[]) }) ⟨rfl, rfl⟩) fun r s' hr => ?_)))
  cases r with
  | error e => exact hr.elim
  | ok fl =>
  cases fl with
  | next => exact hr.elim
  | brk => exact hr.elim
  | cont => exact hr.elim
  | ret v =>
  obtain ⟨rfl, rfl⟩ := hr
  have ho : (s.heap.push (baObj #[])).get? s.heap.objs.size = some (baObj #[]) := Heap.get?_push_size _ rfl
  have hT : ({ s with heap := s.heap.push (baObj #[]) } : Shared).TypeIs (.ref s.heap.objs.size) "bytearray" := ⟨_, ho, rfl⟩
  refine wpC_bindA (wpAny_isInstance hT ba_sub ?_)
  rw [if_neg (by decide)]
  refine wpC_bind (wpC_holding ?_)
  simp only [callSpecial?]
  refine wpC_bindA (wpAny_specialOf hT ba_slot_init.lookup ?_)
  simp only [ba_slot_init.bind]
  refine wpC_holding (wpC_bindA (wpAny_pure (wpC_bind ?_)))
  refine wpC_call (codeC_call_builtin (okC_init _) ba_slot_init.plain ba_entry_init (ba_slot_init.check _ _ _ _ _ _ _ _ hT hx (k fun h' hs hg => ?_)))
  show wpC _ _ _ _ _ _
  refine wpC_pure ?_
  dsimp only
  rw [if_neg (by decide)]
  exact wpC_pure (q h' hs hg)
end

-- CL7
section
open PySem PySem.W PySem.Calls PyProof.Rows PySem.Spec PyProof.V Builtin
variable {prog : Program} {w : World} {A : Around} {E : Value → Shared → Prop} {s : Shared} {R : Result → Shared → Prop}
theorem codeC_func {body : List Stmt} {env : Env}
    (h : wpC (model prog w) (A.deeper env) (execs body env) (fun f s' => R (.ok (.ret (match f with | .ret v => v | _ => .none))) s') (fun _ _ => False) s) : codeC (model prog w) A (.func body env) R s := by
  refine codeC_of_tree rfl ?_
  show wpC _ (A.deeper env) (do point; match ← (execs body env).onRaise (leaving env) with | .ret v => ret v | _ => ret .none) _ _ s
  refine wpC_bindA (wpAny_point ?_)
  refine wpC_bind ?_
  have h' : wpC (model prog w) (A.deeper env) ((execs body env).onRaise (leaving env)) (fun f s' => R (.ok (.ret (match f with | .ret v => v | _ => .none))) s') (fun e s' => R (.error e) s') s := fun Γ p hΓ h1 h2 => by
    rw [Sem.wp_onRaise]
    exact Sem.wp_mono _ Γ _ (fun a p' s' z => z) (fun e p' s' z => z.elim) p s (h Γ p hΓ h1 h2)
  refine wpC_mono h' (fun f s' z => ?_) fun _ _ x => x
  cases f <;> exact wpC_pure z
theorem codeC_call_def {a : Addr} {o : Obj} {fd : FuncData} {body : List Stmt} {args : Args} {binds : List (PySem.Str × Value)}
    (hroom : A.depth < recursionLimit) (ho : s.heap.get? a = some o) (hd' : o.data = .func fd) (hlim : s.heap.NoLimit) (hcd : s.heap.CodeRec fd.code fd.qualname) (hbody : fd.body = .stmts body) (hbind : BindsTo s fd args binds)
    (hcell : ∀ x ∈ fd.scope.names, x.2 ≠ .cell) (hloc : ∀ x ∈ binds, fd.scope.names.lookup x.1 = some .local)
    (h : ∀ h₀, h₀.Ns s.heap.objs.size (fun x => binds.reverse.lookup x) → (∀ b o, s.heap.get? b = some o → h₀.get? b = some o) →
      wpC (model prog w) (A.deeper (callEnv fd s.heap.objs.size a)) (execs body (callEnv fd s.heap.objs.size a)) (fun f s' => R (.ok (.ret (match f with | .ret v => v | _ => .none))) s') (fun _ _ => False) { s with heap := h₀, toks := s.toks + binds.length })
    (hco : fd.scope.isCoroutine = false) (hgen : fd.scope.isGenerator = false) (hk : fd.scope.kind = .function) : codeC (model prog w) A (.call (.ref a) args) R s := by
  refine codeC_of_tree rfl ?_
  show wpC _ A.in1 (callAny (.ref a) args) _ _ s
  simp only [callAny]
  refine wpC_bindA (wpAny_load ho ?_)
  obtain ⟨c, oc, vs, tq, hc, hoc, hdc, hq⟩ := hcd
  simp only [hd', callFunction, hco, hgen, hbody, hc]
  refine wpC_bindA (m := field (.ref c) 1) (wpAny_field hoc hdc hq ?_)
  refine wpC_bindA (wpAny_pure ?_)
  refine wpC_bindA (hbind _ _ _ _ ?_)
  refine wpC_bindA (wpAny_newFunctionEnv hcell hloc (fun h₀ hns₀ hsb₀ => ?_) hk)
  refine wpC_bindA (wpAny_enterFrame (hlim.fresh _ hsb₀) hroom ?_)
  refine wpC_pure ⟨rfl, codeC_func ?_⟩
  have := h h₀ hns₀ fun b o e => hsb₀.extBut b o (Nat.ne_of_lt (Heap.lt_size e)) (Heap.get?_push_of_some _ e)
  unfold callEnv at this
  rw [hc] at this
  exact this
end
section
variable {w : World} {f : Fm} {m m' : PySem.Str → Option Value} {news news' : List (Addr × Obj)} {h h' : Heap} {E : Value → Shared → Prop}
  {g : Array GenState} {d : Drawn} {tk : Nat} {o : OsState}
theorem enterC_code {R : Result → Shared → Prop} {name qual : PySem.Str} {params : Arguments} {body : List Stmt} {scope : Scope} {dV kV doc pm cdv ct oc : Value} {an od : Option Addr} {osl : Array (Option Value)}
    {fa : Addr} {args : Args} {un : Nat} {binds : List (PySem.Str × Value)} (C : Cx w f m news h)
    (ho : (Mine.hd.heap_39 w.params).lookup fa = some ⟨oc, od, .func (fnOf name qual params body scope dV kV doc pm an cdv ct), osl⟩) (hcd : codeIn (Mine.hd.heap_39 w.params) cdv qual = true) {dp : Nat} (hroom : dp < 1000) (hun : un ≤ 5 * dp + 50)
    (hbind : BindsTo ⟨h, g, d, tk, o⟩ (fnOf name qual params body scope dV kV doc pm an cdv ct) args binds)
    (hloc : (binds.all fun x => decide (scope.names.lookup x.1 = some .local)) = true)
    (hb : ∀ h₀' L' h', Cx w ⟨envOf qual scope L' fa cdv, f.env :: f.outer, h₀', L', dp + 1, un + 3, f.gd⟩ (fun y => binds.reverse.lookup y) news h' →
      wpC (MM w) (AR ⟨envOf qual scope L' fa cdv, f.env :: f.outer, h₀', L', dp + 1, un + 3, f.gd⟩) (execs body (envOf qual scope L' fa cdv))
        (Lv w f m ⟨envOf qual scope L' fa cdv, f.env :: f.outer, h₀', L', dp + 1, un + 3, f.gd⟩ g d o fun v s' => R (.ok (.ret v)) s') (fun _ _ => False) ⟨h', g, d, tk + binds.length, o⟩)
    (hco : scope.isCoroutine = false) (hgen : scope.isGenerator = false) (hk : scope.kind = .function) (hcell : ∀ x ∈ scope.names, x.2 ≠ .cell) :
    codeC (MM w) { handled := none, depth := dp, frames := some (f.env :: f.outer), guards := f.gd, units := un } (.call (.ref fa) args) R ⟨h, g, d, tk, o⟩ := by
  obtain ⟨⟨A₀, base, B⟩, F, X, N, ⟨p, lo, me, mg, mb, T⟩, hf, hke, hu⟩ := C
  obtain ⟨FG, BG, st, lv⟩ := groundX (s := ⟨h, g, d, tk, o⟩) (R := R) (A := { handled := none, depth := dp, frames := some (f.env :: f.outer), guards := f.gd, units := un }) B F N rfl hf hke
  refine codeC_call_def (fd := fnOf name qual params body scope dV kV doc pm an cdv ct) (body := body) (binds := binds) hroom ((X.keeps F.keep) _ _ ho) rfl (T.nolimit.keeps F.keep) (codeRec_of (X.keeps F.keep) hcd) rfl hbind hcell (locs hloc) (fun h₁ hns hk₁ => ?_) hco hgen hk
  refine wpC_mono (hb _ h.objs.size h₁ ⟨⟨_, _, BG⟩, ⟨hns, fun b o e => hk₁ b o (of_hideAll _ e), Nat.le_of_eq (hideAll_size _ _)⟩, X.keeps st, (fun p hp => ⟨hk₁ _ _ (N p hp).1, Nat.ne_of_lt (Heap.lt_size (N p hp).1), hideAll_none _ (List.mem_map_of_mem hp)⟩), ⟨p, lo, me, mg, mb, T.keeps st⟩, rfl, hk, by show un + 3 ≤ 5 * (dp + 1) + 50; omega⟩) (fun fl s' hl => ?_) fun _ _ x => x.elim
  obtain ⟨h', tk', m', news', rfl, C', k⟩ := hl
  refine lv _ _ ?_
  exact leaveK_ C'.F C'.N fun F₂ N₂ => k ⟨⟨_, _, B⟩, F₂, X, N₂, ⟨p, lo, me, mg, mb, T⟩, hf, hke, hu⟩
end

-- CL8
section
open PySem PySem.W PySem.Calls PyProof.Rows PySem.Spec PyProof.V Builtin
variable {prog : Program} {w : World} {A : Around} {K : Frag} {C : Addr} {R : Result → Shared → Prop} {h : Heap} {g : Array GenState} {d : Drawn} {t : Nat} {os : OsState}
theorem wpC_looks {α β : Type} {M : Model} {A : Around} {m : Sem α} {v : α} {f : α → Sem β} {Q : β → Shared → Prop} {E : Value → Shared → Prop} (L : Looks M h m v) (k : wpC M A (f v) Q E ⟨h, g, d, t, os⟩) : wpC M A (m >>= f) Q E ⟨h, g, d, t, os⟩ := wpC_bindA (L.at k)
theorem codeC_call_builtin_at {s : Shared} {id : String} {args : Args} {b : Builtin} (hk : okC (.builtin id args) = true) (hq : (Code.builtin id args).quiet = true) (hb : entryFor table id = some b)
    (h : wpAny (model prog w) A.in1 (checkBuiltinCall id args) (fun _ s₁ => wpC (model prog w) (A.under (.builtin id args)) (b args) (fun fin s' => match fin with | .done f => R (.ok f) s' | .again c' => c'.quiet = true ∧ codeC (model prog w) A c' R s') (fun e s' => R (.error e) s') s₁) (fun e s' => R (.error e) s') s) :
    codeC (model prog w) A (.call (.builtin id) args) R s := by
  refine codeC_of_tree rfl ?_
  show wpC _ A.in1 (do checkBuiltinCall id args; again (.builtin id args)) _ _ s
  exact wpC_bindA (wpAny_mono h (fun _ s₁ h₁ => wpC_pure ⟨hq, codeC_builtin hk hb h₁⟩) fun _ _ x => x)
theorem makeC_core {rest : List Value} {kw : List (PySem.Str × Value)} {init : Value} (Y : Makes (model prog w) h C) (hi : Looks (model prog w) h (typeLookup (.ref C) "__init__") (some init))
    (hb : ∀ self, Looks (model prog w) h (bindSpecial init self) (init, [self])) (hne : (some init != some (Value.builtin "object.__init__")) = true ∨ (rest = [] ∧ kw = []))
    (hq : codeC (model prog w) (A.under (.builtin "type.__call__" ⟨.ref C :: rest, kw⟩)) (.call init ⟨.ref (h.objs.size + 1) :: rest, kw⟩) (InitBack (h.objs.size + 1) R) ⟨(h.push emptyDict).push (instObj C h.objs.size), g, d, t, os⟩) :
    codeC (model prog w) A (.call (.ref C) ⟨rest, kw⟩) R ⟨h, g, d, t, os⟩ := by
  have Y' := Y
  obtain ⟨⟨oc, od, cd, sl, hC, e1, e2, e4⟩, made, base, self, top, call, typ⟩ := Y
  refine codeC_of_tree rfl ?_
  show wpC _ _ (callAny (.ref C) _) _ _ _
  simp only [callAny]
  refine wpC_bindA (wpAny_load hC ?_)
  show wpC _ _ (callAny.viaDunder (.ref C) _) _ _ _
  unfold callAny.viaDunder
  refine wpC_bindA (call.at ?_)
  dsimp only
  rw [tc_bind]
  refine wpC_bindA (wpAny_pure (wpC_bindA (wpAny_pure ?_)))
  refine wpC_pure (a := Fin.again (.call (.builtin "type.__call__") ⟨.ref C :: rest, kw⟩)) (And.intro rfl ?_)
  refine codeC_call_builtin_at rfl (Code.quiet_builtin _ (by decide +kernel)) entry_typeCall (check_slot tc_kind tc_split typ (tc_args _ _ _) ?_)
  unfold Builtin.«type.__call__»
  have hm : Looks (model prog w) h (mroOf (.ref C)) cd.mro := ((Looks.ld (part := none) hC).andThen .now).andThen .now
  dsimp only
  rw [if_neg (show ¬ ((Value.ref C == Value.type "type") = true) from Bool.false_ne_true)]
  refine wpC_looks hm ?_
  rw [e4, if_neg (by decide)]
  refine wpC_looks made ?_
  dsimp only
  refine wpC_bindA (wpAny_pure ?_)
  refine wpC_bindA (wpAny_holding (wpAny_call (new_K Y' hi hne ?_)))
  dsimp only
  have k : ∀ b o, h.get? b = some o → ((h.push emptyDict).push (instObj C h.objs.size)).get? b = some o := fun b o e => Heap.get?_push_of_some _ (Heap.get?_push_of_some _ e)
  have hx : ((h.push emptyDict).push (instObj C h.objs.size)).get? (h.objs.size + 1) = some (instObj C h.objs.size) := by heap_get
  have t1 : Looks (model prog w) ((h.push emptyDict).push (instObj C h.objs.size)) (typeOf (.ref (h.objs.size + 1))) (.ref C) := (Looks.ld hx).andThen .now
  have s1 := self.keeps k
  have i1 := hi.keeps k
  have b1 := (hb (.ref (h.objs.size + 1))).keeps k
  refine wpC_bindA ?_
  unfold isInstance
  refine wpAny_bind (t1.at (s1.at ?_))
  rw [if_neg (by decide)]
  refine wpC_bind (wpC_holding ?_)
  unfold callSpecial? specialOf
  refine wpC_bindA (wpAny_bind (t1.at (i1.at ?_)))
  dsimp only
  refine wpC_holding (wpC_looks b1 (wpC_bind ?_))
  refine wpC_call (codeC_mono hq fun r s' z => ?_)
  rcases r with e | (v | _ | _ | _) <;> first | exact z | exact z.elim | skip
  obtain ⟨rfl, z⟩ := z
  refine wpC_pure ?_
  dsimp only
  rw [if_neg (by decide)]
  exact wpC_pure z
end
section
variable {w : World} {f : Fm} {m : PySem.Str → Option Value} {news : List (Addr × Obj)} {h : Heap} {E : Value → Shared → Prop}
  {g : Array GenState} {d : Drawn} {tk : Nat} {o : OsState} {Q : Value → Shared → Prop}
theorem callC_cls {Cc fI : Addr} {rest : List Value} {kw : List (PySem.Str × Value)} (C : Cx w f m news h) (hm : makesIn (Mine.hd.heap_39 w.params) Cc = true) (hi : findIn (Mine.hd.heap_39 w.params) (.ref Cc) "__init__" = some (some (.ref fI))) (hf : isFn (Mine.hd.heap_39 w.params) (.ref fI) = true)
    (k : ∀ x dx h', Cx w f m ((x, instObj Cc dx) :: (dx, dictOf [] 0) :: news) h' → (∀ p ∈ news, p.1 < dx) → dx < x →
      codeC (MM w) ((AR f).under (.builtin "type.__call__" ⟨.ref Cc :: rest, kw⟩)) (.call (.ref fI) ⟨.ref x :: rest, kw⟩) (InitBack x (RB Q E)) ⟨h', g, d, tk, o⟩) :
    wpC (MM w) (AR f) (call (.ref Cc) rest kw) Q E ⟨h, g, d, tk, o⟩ := by
  have X := C.KX
  refine wpC_call (makeC_core (makes_of X hm) (looks_findIn X hi) (fun self => bind_fn X self (beq_iff_eq.mp hf)) (.inl rfl) (k _ h.objs.size _ (C.to ((C.F.push _).push _) ?_) (fun p hp => Heap.lt_size (C.N p hp).1) (Nat.lt_succ_self _)))
  have := (C.N.push C.F emptyDict).push (C.F.push _) (instObj Cc h.objs.size)
  rwa [Heap.size_push] at this
end

-- CL9
section
open PySem PySem.W PySem.Calls PyProof.Rows PySem.Spec PyProof.V Builtin
variable {prog : Program} {w : World} {A : Around} {E : Value → Shared → Prop} {s : Shared} {env : Env}
theorem cs_execs {st : Stmt} {rest : List Stmt} {Q : Flow → Shared → Prop}
    (h : wpC (model prog w) A (exec st env) (fun f s' => match f with | .next => wpC (model prog w) A (execs rest env) Q E s' | f => Q f s') E s) : wpC (model prog w) A (execs (st :: rest) env) Q E s := fun Γ p hΓ h1 h2 => by
  rw [execs_cons, Sem.wp_bind']
  refine Sem.wp_mono _ Γ _ (fun f p' s' h' => ?_) (fun _ _ _ h' => h') _ _ (h Γ p hΓ h1 h2)
  cases f <;> first | exact h' Γ p' hΓ h1 h2 | exact h'
theorem cs_nil {Q : Flow → Shared → Prop} (h : Q .next s) : wpC (model prog w) A (execs [] env) Q E s := wpC_any (wpAny_execs_nil h)
theorem cs_Assign {x : PySem.Str} {pos' pos : Pos} {value : Expr} {Q : Flow → Shared → Prop} (h : wpC (model prog w) A (eval value env) (fun v s₁ => wpC (model prog w) A (storeName env x v) (fun _ => Q .next) E s₁) E s)
    (hs : swapsWith value (some (.Name x pos')) pos.line env = pure false) : wpC (model prog w) A (exec (.Assign [.Name x pos'] value pos) env) Q E s := fun Γ p hΓ h1 h2 => by
  simp only [exec_Assign_Name env x pos' value pos hs, Sem.wp_bind', Sem.wp_cmd_standAt, Sem.wp_bindName, Sem.wp_pure']
  exact Sem.wp_mono _ Γ _ (fun v _ s₁ h₁ => h₁ Γ _ hΓ h1 h2) (fun _ _ _ h' => h') _ _ (h Γ _ hΓ h1 h2)
theorem cs_Expr {e : Expr} {pos : Pos} {Q : Flow → Shared → Prop} (h : wpC (model prog w) A (eval e env) (fun _ => Q .next) E s) (hi : interactive env = false) (hs : swapsWith e none pos.line env = pure false) : wpC (model prog w) A (exec (.Expr e pos) env) Q E s := by
  rw [exec_Expr env e pos hi hs]
  exact wpC_bindA (wpAny_standAt (wpC_bind (wpC_mono h (fun v s' h' => wpC_any (wpAny_dropValue h')) fun _ _ x => x)))
theorem cs_Call {func : Expr} {args : List Expr} {pos : Pos} {Q : Value → Shared → Prop} (h : wpC (model prog w) A (eval func env) (fun f s₁ => wpC (model prog w) A (callWith pos f [] (backTo pos (starEach args env)) []) Q E s₁) E s)
    (he : eval (.Call func args [] pos) env = (do callWith pos (← eval func env) [] (backTo pos (starEach args env)) (backToKw pos (keywordEach [] env)))) : wpC (model prog w) A (eval (.Call func args [] pos) env) Q E s := by
  rw [he]; exact wpC_bind h
theorem cs_MethodCall {o : Expr} {name : PySem.Str} {apos pos : Pos} {args : List Expr} {pl : Sem Bool} {Q : Value → Shared → Prop}
    (h : wpC (model prog w) A (eval o env) (fun ov s₁ => wpC (model prog w) A (getMethod ov name pl) (fun fx s₂ => wpC (model prog w) A (callWith pos fx.1 fx.2 (backTo pos (starEach args env)) []) Q E s₂) E s₁) E s)
    (he : eval (.Call (.Attribute o name apos) args [] pos) env = (do
      let ov ← eval o env
      standAt apos.atName
      let (f, first) ← holding [ov] (getMethod ov name pl)
      callWith pos f first (backTo pos (starEach args env)) [])) : wpC (model prog w) A (eval (.Call (.Attribute o name apos) args [] pos) env) Q E s := by
  rw [he]
  refine wpC_bind (wpC_mono h (fun ov s₁ h₁ => wpC_bindA (wpAny_standAt (wpC_bind (wpC_holding (wpC_mono h₁ (fun fx s₂ h₂ => ?_) fun _ _ x => x))))) fun _ _ x => x)
  exact h₂
end

-- CLA
section
open PySem PySem.W PySem.Calls PyProof.Rows PySem.Spec PyProof.V Builtin
variable {M : Model} {A : Around} {E : Value → Shared → Prop} {s : Shared} {env : Env} {K : Frag} {pos : Pos} {f : Value} {first : List Value} {Q : Value → Shared → Prop}
theorem wpC_keep {α : Type} {vs : List Value} {m : Sem α} {Q : α → Shared → Prop} (h : wpC M A m Q E s) : wpC M A (m.keep vs) Q E s := fun Γ p hΓ h1 h2 => by rw [Sem.wp_keep]; exact h Γ p hΓ h1 h2
theorem cs_callWith {P : Heap → Prop} {args : List (Bool × Sem Value)} {keywords : List (Option PySem.Str × Sem Value)} (hplain : (args.any (·.1) || keywords.any (·.1.isNone)) = false)
    (hk : ∀ h, P h → ∃ k, (k = Keeper.frame ∨ k = Keeper.machine ∨ k = Keeper.boundFrame) ∧ Looks M h (keeperOf f) k)
    (h : wpC M A (evalArgs f true args keywords) (fun a s₁ => P s₁.heap ∧ wpC M A (call f (first ++ a.pos) a.kw) Q E s₁) E s) : wpC M A (callWith pos f first args keywords) Q E s := by
  unfold callWith
  refine wpC_bind (wpC_holding (wpC_mono h (fun a s₁ h₁ => wpC_bindA (wpAny_standAt ?_)) fun _ _ x => x))
  obtain ⟨k, hk', L⟩ := hk _ h₁.1
  simp only [hplain]
  refine wpC_bindA (L.here ?_)
  have tail : ∀ {t : Sem Value}, wpC M A t Q E s₁ → wpC M A (t >>= fun r => holding [r] point >>= fun _ => pure r) Q E s₁ :=
    fun ht => wpC_bind (wpC_mono ht (fun r s₂ hr => wpC_bindA (wpAny_holding (wpAny_point (wpC_pure hr)))) fun _ _ x => x)
  have marked (mk : Value) : wpC M A (callMarked mk f (first ++ a.pos) a.kw) Q E s₁ := by unfold callMarked; exact wpC_keep h₁.2
  rcases hk' with rfl | rfl | rfl <;> dsimp only <;> first | exact tail h₁.2 | (split <;> first | exact tail h₁.2 | exact tail (marked _))
end

-- CLB
section
open PySem PySem.W PySem.Calls PyProof.Rows PySem.Spec PyProof.V Builtin
variable {M : Model} {A : Around} {E : Value → Shared → Prop} {s : Shared} {env : Env} {K : Frag} {pos : Pos} {f : Value} {first : List Value} {Q : Value → Shared → Prop}
theorem cs_spliced_nil {Q : List Value → Shared → Prop} (h : Q [] s) : wpC M A (spliced []) Q E s := wpC_pure h
theorem cs_spliced {x : Sem Value} {rest : List (Bool × Sem Value)} {Q : List Value → Shared → Prop}
    (h : wpC M A x (fun v s₁ => wpC M A (spliced rest) (fun vs s₂ => Q (v :: vs) s₂) E s₁) E s) : wpC M A (spliced ((false, x) :: rest)) Q E s := by
  rw [spliced]
  refine wpC_bind (wpC_mono h (fun v s₁ h₁ => ?_) fun _ _ x => x)
  simp only [Bool.false_eq_true, if_false]
  exact wpC_bindA (wpAny_pure (wpC_bind (wpC_holding (wpC_mono h₁ (fun vs s₂ h₂ => wpC_pure h₂) fun _ _ x => x))))
theorem cs_evalArgs {f : Value} {x : Sem Value} {rest : List (Bool × Sem Value)} {Q : Args → Shared → Prop}
    (h : wpC M A (spliced ((false, x) :: rest)) (fun vs s' => Q ⟨vs, []⟩ s') E s) : wpC M A (evalArgs f true ((false, x) :: rest) []) Q E s := by
  unfold evalArgs
  show wpC M A (spliced ((false, x) :: rest) >>= _) Q E s
  refine wpC_bind (wpC_mono h (fun vs s' h' => ?_) fun _ _ x => x)
  refine wpC_holding ?_
  exact wpC_bindA (wpAny_pure (wpC_bindA (wpAny_pure (wpC_pure h'))))
/-- f(e, ..), with f of the written part -/
theorem cs_callK {h₀ : Heap} {e : Expr} {rest : List Expr} (_X : K.In h₀) (hk : keepIn K f = true) (h : wpC M A (spliced (backTo pos (starEach (e :: rest) env))) (fun vs s₁ => K.In s₁.heap ∧ wpC M A (call f (first ++ vs)) Q E s₁) E s)
    (he : starEach (e :: rest) env = (false, eval e env) :: starEach rest env) (hplain : (backTo pos (starEach rest env)).any (·.1) = false) :
    wpC M A (callWith pos f first (backTo pos (starEach (e :: rest) env)) []) Q E s := by
  rw [he] at h ⊢
  exact cs_callWith (by show ((false || (backTo pos (starEach rest env)).any (·.1)) || false) = false; rw [hplain]; rfl) (keeps_K hk) (cs_evalArgs h)
theorem cs_arg {e : Expr} {rest : List Expr} {Q : List Value → Shared → Prop} (h : wpC M A (eval e env) (fun v s₁ => wpC M A (spliced (backTo pos (starEach rest env))) (fun vs s₂ => Q (v :: vs) s₂) E s₁) E s)
    (he : starEach (e :: rest) env = (false, eval e env) :: starEach rest env) : wpC M A (spliced (backTo pos (starEach (e :: rest) env))) Q E s := by
  rw [he]
  exact cs_spliced h
theorem cs_args0 {Q : List Value → Shared → Prop} (h : Q [] s) : wpC M A (spliced (backTo pos (starEach [] env))) Q E s := cs_spliced_nil h
end

-- CLC
section
open PySem PySem.W PySem.Calls PyProof.Rows PySem.Spec PyProof.V Builtin
variable {prog : Program} {w : World} {A : Around} {E : Value → Shared → Prop} {s : Shared} {env : Env} {target : Expr} {body : List Stmt} {R : Result → Shared → Prop}
theorem cs_If {test : Expr} {body orelse : List Stmt} {pos : Pos} {Q : Flow → Shared → Prop} (h : wpC (model prog w) A (isTrue test env (eval test env)) (fun b s₂ => IfB b (wpC (model prog w) A (execs body env) Q E s₂) (wpC (model prog w) A (execs orelse env) Q E s₂)) E s) : wpC (model prog w) A (exec (.If test body orelse pos) env) Q E s := by
  rw [exec_If]
  refine wpC_bindA (wpAny_standAt ?_)
  refine wpC_bind (wpC_mono h (fun b s₂ z => ?_) fun _ _ x => x)
  cases b with
  | true => exact z
  | false => exact z
end

-- CLD
section
open PySem PySem.W PySem.Calls PyProof.Rows PySem.Spec PyProof.V Builtin
variable {prog : Program} {w : World} {A : Around} {E : Value → Shared → Prop} {s : Shared} {env : Env} {target : Expr} {body : List Stmt} {R : Result → Shared → Prop}
theorem wpC_onRaise0 {α : Type} {M : Model} {m : Sem α} {k : Value → Sem Unit} {Q : α → Shared → Prop} {E : Value → Shared → Prop} (h : wpC M A m Q (fun _ _ => False) s) : wpC M A (m.onRaise k) Q E s := fun Γ p hΓ h1 h2 => by
  rw [Sem.wp_onRaise]
  exact Sem.wp_mono _ Γ _ (fun _ _ _ z => z) (fun _ _ _ z => z.elim) p s (h Γ p hΓ h1 h2)
theorem codeC_forLoop {it : Value} (I : Nat → Shared → Prop)
    (turn : ∀ n s, I n s → wpAny (model prog w) A (pyNext it) (fun r s₁ => match r with
      | none => R (.ok .next) s₁
      | some v => wpAny (model prog w) A (letOwnedTupleGo target it v) (fun _ s₁' => wpAny (model prog w) A (assign target env v) (fun _ s₂ => wpC (model prog w) A (execs body env) (fun f s₃ => match f with
            | .next | .cont => ∃ m, m < n ∧ I m s₃
            | .brk => R (.ok .next) s₃
            | .ret v => R (.ok (.ret v)) s₃) (fun _ _ => False) s₂) (fun _ _ => False) s₁') (fun _ _ => False) s₁) (fun _ _ => False) s)
    (n : Nat) (h : I n s) : codeC (model prog w) A (.forLoop target it body [] env) R s := by
  induction n using Nat.strongRecOn generalizing s with
  | ind n ih =>
    refine codeC_of_tree rfl ?_
    show wpC _ A ((forTurn target it body [] env).onRaise (fun x => do noteFrame x env; theTreesLotGoes x)) _ _ s
    refine wpC_onRaise0 ?_
    simp only [forTurn]
    refine wpC_bindA (wpAny_standAt ?_)
    refine wpC_bind (wpC_onRaise0 (wpC_any (wpAny_mono (turn n s h) (fun r s₁ h₁ => ?_) fun _ _ x => x)))
    cases r with
    | none => exact wpC_pure ⟨rfl, codeC_any (codeAny_block (wpAny_execs_nil h₁))⟩
    | some v =>
      refine wpC_bindA (wpAny_mono h₁ (fun _ s₁' h₁' => ?_) fun _ _ x => x)
      refine wpC_bindA (wpAny_mono h₁' (fun _ s₂ h₂ => ?_) fun _ _ x => x)
      refine wpC_bind (wpC_mono h₂ (fun f s₃ h₃ => ?_) fun _ _ x => x)
      cases f with
      | next => obtain ⟨m, hm, hI⟩ := h₃; exact wpC_pure ⟨rfl, ih m hm hI⟩
      | cont => obtain ⟨m, hm, hI⟩ := h₃; exact wpC_pure ⟨rfl, ih m hm hI⟩
      | brk => exact wpC_pure h₃
      | ret v => exact wpC_pure h₃
end

-- CLE
section
open PySem PySem.W PySem.Calls PyProof.Rows PySem.Spec PyProof.V Builtin
variable {prog : Program} {w : World} {A : Around} {E : Value → Shared → Prop} {s : Shared} {env : Env} {target : Expr} {body : List Stmt} {R : Result → Shared → Prop}
theorem wpC_run {M : Model} {c : Code} {Q : Flow → Shared → Prop} (hc : codeC M A c (fun r s' => match r with | .ok f => Q f s' | .error e => False) s) : wpC M A (run c none) Q (fun _ _ => False) s := fun Γ p hΓ h1 h2 => by
  have h0 := hc (Γ.enter c none p) p rfl (hΓ.enter c none p (by intro x; cases x)) (fun x hx => by
    rcases List.mem_cons.mp hx with rfl | hx
    · exact h1
    · exact h2 x hx)
  obtain ⟨r, s', hr, hR⟩ := h0
  rw [Sem.wp_run]
  refine ⟨r, s', hr, ?_⟩
  cases r with
  | ok f => exact hR
  | error e => exact hR.elim
theorem cs_For {iter : Expr} {pos : Pos} {Q : Flow → Shared → Prop}
    (h : wpAny (model prog w) A (eval iter env) (fun x s₁ => wpAny (model prog w) A (pyIter x) (fun it s₂ => codeC (model prog w) A (.forLoop target it body [] env) (fun r s' => match r with | .ok f => Q f s' | .error e => False) s₂) (fun _ _ => False) s₁) (fun _ _ => False) s)
    (hs : ∀ x, foldedSetIterable iter env x = pure x) : wpC (model prog w) A (exec (.For target iter body [] pos) env) Q (fun _ _ => False) s := by
  rw [exec_For]
  refine wpC_bindA (wpAny_standAt ?_)
  refine wpC_bindA (wpAny_mono h (fun x s₁ h₁ => ?_) fun _ _ x => x)
  refine wpC_bindA (wpAny_of_eq (hs x) ?_)
  refine wpC_bindA (wpAny_standAt ?_)
  refine wpC_bindA (wpAny_holding (wpAny_mono h₁ (fun it s₂ h₂ => ?_) fun _ _ x => x))
  unfold runOwn
  exact wpC_onRaise0 (wpC_run h₂)
end

-- W1
-- A BUFFER MADE (on clean stacks)
section
open PySem PySem.W PySem.Calls PyProof.Rows PySem.Spec PyProof.V Builtin
variable {prog : Program} {w : World} {A : Around} {E : Value → Shared → Prop} {s : Shared} {env : Env} {pos : Pos}
theorem cs_AssignTuple {elts : List Expr} {k : Nat} {tpos : Pos} {value : Expr} {Q : Flow → Shared → Prop}
    (h : wpC (model prog w) A (eval value env) (fun v s₁ => wpC (model prog w) A (assign (.Tuple elts k tpos) env v) (fun _ => Q .next) E s₁) E s)
    (hs : swapsWithSole [.Tuple elts k tpos] value pos.line env = pure false)
    (hw : swappedStores [.Tuple elts k tpos] value env = pure none) : wpC (model prog w) A (exec (.Assign [.Tuple elts k tpos] value pos) env) Q E s := by
  rw [exec_Assign]
  refine wpC_bindA (wpAny_standAt ?_)
  rw [hs]
  refine wpC_bindA (wpAny_pure ?_)
  rw [if_neg (by decide)]
  refine wpC_bind (wpC_mono h (fun v s₁ h₁ => ?_) fun _ _ x => x)
  rw [hw]
  refine wpC_bindA (wpAny_pure ?_)
  show wpC (model prog w) A (do assignAll v [assign (.Tuple elts k tpos) env]; pure .next) Q E s₁
  exact wpC_bind (wpC_mono h₁ (fun _ _ x => wpC_pure x) fun _ _ x => x)
theorem cs_Tuple {elts : List Expr} {k : Nat} {Q : Value → Shared → Prop} (h : wpC (model prog w) A (spliced (backTo pos (starEach elts env))) (fun vs s₁ => wpC (model prog w) A (newTuple vs) Q E s₁) E s) : wpC (model prog w) A (eval (.Tuple elts k pos) env) Q E s := by
  show wpC (model prog w) A (do standAt pos; newTuple (← spliced (backTo pos (starEach elts env)))) Q E s
  exact wpC_bindA (wpAny_standAt (wpC_bind h))
theorem cs_callType {T : String} {e : Expr} {rest : List Expr} {Q : Value → Shared → Prop} (h : wpC (model prog w) A (spliced (backTo pos (starEach (e :: rest) env))) (fun vs s₁ => wpC (model prog w) A (call (.type T) vs) Q E s₁) E s)
    (he : starEach (e :: rest) env = (false, eval e env) :: starEach rest env) (hplain : (backTo pos (starEach rest env)).any (·.1) = false) :
    wpC (model prog w) A (callWith pos (.type T) [] (backTo pos (starEach (e :: rest) env)) []) Q E s := by
  rw [he] at h ⊢
  exact cs_callWith (P := fun _ => True) (by show ((false || (backTo pos (starEach rest env)).any (·.1)) || false) = false; rw [hplain]; rfl) (fun h _ => ⟨.machine, .inr (.inl rfl), Looks.of_pure rfl⟩)
    (cs_evalArgs (wpC_mono h (fun vs s₁ z => ⟨trivial, z⟩) fun _ _ x => x))
theorem cs_evalAll_any {xs : List (Sem Value)} {Q : List Value → Shared → Prop} (h : wpAny (model prog w) A (evalAll xs) Q E s) : wpC (model prog w) A (evalAll xs) Q E s := wpC_any h
/-- keyword arguments alone, these on the plain path -/
theorem cs_evalArgs_kw {f : Value} {kws : List Keyword} {Q : Args → Shared → Prop} (hall : (backToKw pos (keywordEach kws env)).all (·.1.isSome) = true)
    (h : wpAny (model prog w) A (evalAll ((backToKw pos (keywordEach kws env)).map (·.2))) (fun ks s₂ => Q ⟨[], ((backToKw pos (keywordEach kws env)).filterMap (·.1)).zip ks⟩ s₂) E s) :
    wpC (model prog w) A (evalArgs f true (backTo pos (starEach [] env)) (backToKw pos (keywordEach kws env))) Q E s := wpC_any (evalArgs_kw2_nil hall h)
theorem cs_CallKW {func : Expr} {args : List Expr} {kws : List Keyword} {Q : Value → Shared → Prop} (h : wpC (model prog w) A (eval func env) (fun f s₁ => wpC (model prog w) A (callWith pos f [] (backTo pos (starEach args env)) (backToKw pos (keywordEach kws env))) Q E s₁) E s)
    (he : eval (.Call func args kws pos) env = (do callWith pos (← eval func env) [] (backTo pos (starEach args env)) (backToKw pos (keywordEach kws env)))) : wpC (model prog w) A (eval (.Call func args kws pos) env) Q E s := by
  rw [he]; exact wpC_bind h
theorem cs_callKW {K : Frag} {f : Value} {kws : List Keyword} {Q : Value → Shared → Prop} (hk : keepIn K f = true) (hall : (backToKw pos (keywordEach kws env)).all (·.1.isSome) = true)
    (h : wpAny (model prog w) A (evalAll ((backToKw pos (keywordEach kws env)).map (·.2))) (fun ks s₂ => K.In s₂.heap ∧ wpC (model prog w) A (call f [] (((backToKw pos (keywordEach kws env)).filterMap (·.1)).zip ks)) Q E s₂) E s)
    (hplain : ((backTo pos (starEach [] env)).any (·.1) || (backToKw pos (keywordEach kws env)).any (·.1.isNone)) = false) :
    wpC (model prog w) A (callWith pos f [] (backTo pos (starEach [] env)) (backToKw pos (keywordEach kws env))) Q E s :=
  cs_callWith hplain (keeps_K hk) (cs_evalArgs_kw hall h)
end
local macro_rules | `(tactic| walk_at "m.cmp") => `(tactic| first | with_reducible refine is_bytes_none ?_ | with_reducible refine isnot_bytes_none ?_)
section
variable {w : World} {f : Fm} {m : PySem.Str → Option Value} {news : List (Addr × Obj)} {h : Heap} {E : Value → Shared → Prop}
  {g : Array GenState} {d : Drawn} {tk : Nat} {o : OsState} {Q : Value → Shared → Prop}
variable {A : Around}
theorem Cx.made {ob ob' : Obj} {h' : Heap} (C : Cx w f m news h) (hs : Heap.SameBut h.objs.size (h.push ob) h') (hg : h'.get? h.objs.size = some ob') : Cx w f m ((h.objs.size, ob') :: news) h' ∧ ∀ p ∈ news, p.1 < h.objs.size := by
  have hn : ∀ p ∈ news, p.1 < h.objs.size := fun p hp => Heap.lt_size (C.N p hp).1
  have F1 := C.F.push ob
  have hL : h.objs.size ≠ f.L := fun e => absurd C.F.ns.lt (by rw [← e]; exact Nat.lt_irrefl _)
  refine ⟨C.to (F1.change hs hL (next_is_new C.F)) fun p hp => ?_, hn⟩
  rcases List.mem_cons.mp hp with rfl | hp
  · exact ⟨hg, hL, next_is_new C.F⟩
  · exact ⟨hs.extBut _ _ (Nat.ne_of_lt (hn p hp)) (Heap.get?_push_of_some _ (C.N p hp).1), (C.N p hp).2⟩
theorem mk_ba_int {n : Nat} {u : Tok} (C : Cx w f m news h) (h0 : 0 < n) (h1 : n ≤ 100) (k : ∀ D h', Cx w f m ((D, baObj (Array.replicate n 0)) :: news) h' → (∀ p ∈ news, p.1 < D) → Q (.ref D) ⟨h', g, d, tk, o⟩) :
    wpC (MM w) A (call (.type "bytearray") [.int n u]) Q E ⟨h, g, d, tk, o⟩ :=
  ba_make (b := Array.replicate n 0) (by unfold argsOk; kernel_rfl) (fun q => ba_init_int (Heap.get?_push_size _ rfl) h1 h0 fun h' hs hg => q h' hs hg) (fun h' hs hg => let z := Cx.made C hs hg; k _ h' z.1 z.2)
theorem mk_ba_bytes {c : Array UInt8} {u : Tok} (C : Cx w f m news h) (h1 : c.size ≤ 100) (k : ∀ D h', Cx w f m ((D, baObj c) :: news) h' → (∀ p ∈ news, p.1 < D) → Q (.ref D) ⟨h', g, d, tk, o⟩) :
    wpC (MM w) A (call (.type "bytearray") [.bytes c u]) Q E ⟨h, g, d, tk, o⟩ :=
  ba_make (b := c) (by unfold argsOk; kernel_rfl) (fun q => ba_init_bytes (Heap.get?_push_size _ rfl) h1 fun h' hs hg => q h' hs hg) (fun h' hs hg => let z := Cx.made C hs hg; k _ h' z.1 z.2)
/-- a Buffer in the ledger -/
structure BK where
  dx : Nat
  ba : Nat
  k1 : Nat
  k2 : Nat
  tp : Nat
@[reducible] def bufD (P : Params) (q : BK) (p : Int) : List DictEntry := [⟨PyData.keyHash P "_octets", .str "_octets" q.k1, .ref q.ba⟩, ⟨PyData.keyHash P "_place", .str "_place" q.k2, .int p q.tp⟩]
structure BufIn (P : Params) (news : List (Addr × Obj)) (x : Addr) (q : BK) (b : Array UInt8) (p : Int) : Prop where
  hi : (x, instObj 193 q.dx) ∈ news
  hd : (q.dx, dictOf (bufD P q p) 2) ∈ news
  ha : (q.ba, baObj b) ∈ news
theorem bf_cap {u : Tok} (C : Cx w f m news h) (hd : f.dp + 3 < 1000) (k : ∀ h' tk' x q news', Cx w f m news' h' → BufIn w.params news' x q (Array.replicate 8 0) 0 → (∀ p ∈ news, p ∈ news') → (∀ b ∈ [x, q.dx, q.ba], ∀ y, (b, y) ∉ news) → Q (.ref x) ⟨h', g, d, tk', o⟩) :
    wpC (MM w) (AR f) (call (.ref 193) [] [("capacity", .int 8 u)]) Q E ⟨h, g, d, tk, o⟩ := by
  refine' callC_cls C ?k4 ?k5 ?k6 ?_
  (case k4 => k_is); (case k5 => k_is); (case k6 => k_is)
  intro x dx h₁ C₁ l1 l2
  have hu := C.u
  show codeC (MM w) { handled := none, depth := f.dp + 1, frames := some (f.env :: f.outer), guards := f.gd, units := f.un + 1 } _ _ ⟨h₁, g, d, tk, o⟩
  refine' enterC_code (binds := [("self", .ref x), ("capacity", .int 8 u), ("data", .none)]) C₁ ?k6 ?k7 ?kd ?ku ?k9 ?kB ?_ ?c2 ?c3 ?c4 ?c5
  (case k6 => k_is); (case k7 => k_is); (case kd => omega); (case ku => omega); (case k9 => exact binds_K C₁.KX rfl (by k_is) rfl rfl rfl); (case kB => exact rfl); (case c2 => exact rfl); (case c3 => exact rfl); (case c4 => exact rfl); (case c5 => decide)
  intro h₀' L' h' C'
  refine cs_execs (cs_AssignTuple (cs_Tuple ?_) rfl rfl)
  refine cs_arg ?_ rfl
  refine cs_Call ?_ rfl
  refine wpC_any ?_
  repeat walk_at "m.s"
  refine cs_callType ?_ rfl rfl
  refine cs_arg (wpC_any ?_) rfl
  repeat walk_at "m.s"
  refine cs_args0 ?_
  refine mk_ba_int (n := 8) (by walk_at "m.C") (by decide) (by decide) ?_
  intro D h2 C2 l3
  have n1 : D ≠ dx := ne_above l3 (.tail _ (.head _))
  have q1 : ∀ p ∈ news, p.1 < D := fun p hp => l3 p (by simp [hp])
  refine cs_arg (wpC_any ?_) rfl
  repeat walk_at "m.s"
  refine cs_args0 (wpC_any ?_)
  repeat walk_at "m.s"
  rename_i T _ _ l4
  have n2 : T ≠ dx := ne_above l4 (.tail _ (.tail _ (.head _)))
  refine wpC_any ?_
  refine s_unpack (vs := [.ref D, .int 0 _]) (by walk_at "m.C") (by walk_at "m.mem") rfl rfl rfl ?_
  intro h4 C4
  refine assignInOrder_cons (kas_attr ?_)
  repeat walk_at "m.s"
  walk_at "m.setU"
  refine assignInOrder_cons (kas_attr ?_)
  repeat walk_at "m.s"
  walk_at "m.setU"
  refine assignInOrder_nil ?_
  refine cs_nil ?_
  show Lv _ _ _ _ _ _ _ _ _ _
  refine Lv.intro (by walk_at "m.C") (fun Cc => ⟨rfl, ?_⟩)
  refine k _ _ x ⟨dx, D, _, _, _⟩ _ Cc ⟨.tail _ (.tail _ (.head _)), .tail _ (.tail _ (.tail _ (.head _))), .tail _ (.head _)⟩ (fun p hp => by simp [hp]) ?_
  intro b hb y hy
  simp only [List.mem_cons, List.not_mem_nil, or_false] at hb
  rcases hb with rfl | rfl | rfl
  · exact Nat.lt_irrefl _ (Nat.lt_trans (l1 _ hy) l2)
  · exact Nat.lt_irrefl _ (l1 _ hy)
  · exact Nat.lt_irrefl _ (q1 _ hy)
theorem bf_data {c : Array UInt8} {u : Tok} (C : Cx w f m news h) (hz : c.size ≤ 100) (hd : f.dp + 3 < 1000) (k : ∀ h' tk' x q news', Cx w f m news' h' → BufIn w.params news' x q c 0 → (∀ p ∈ news, p ∈ news') → (∀ b ∈ [x, q.dx, q.ba], ∀ y, (b, y) ∉ news) → Q (.ref x) ⟨h', g, d, tk', o⟩) :
    wpC (MM w) (AR f) (call (.ref 193) [] [("data", .bytes c u)]) Q E ⟨h, g, d, tk, o⟩ := by
  refine' callC_cls C ?k4 ?k5 ?k6 ?_
  (case k4 => k_is); (case k5 => k_is); (case k6 => k_is)
  intro x dx h₁ C₁ l1 l2
  have hu := C.u
  show codeC (MM w) { handled := none, depth := f.dp + 1, frames := some (f.env :: f.outer), guards := f.gd, units := f.un + 1 } _ _ ⟨h₁, g, d, tk, o⟩
  refine' enterC_code (binds := [("self", .ref x), ("capacity", .int 0 244), ("data", .bytes c u)]) C₁ ?k6 ?k7 ?kd ?ku ?k9 ?kB ?_ ?c2 ?c3 ?c4 ?c5
  (case k6 => k_is); (case k7 => k_is); (case kd => omega); (case ku => omega); (case k9 => exact binds_K C₁.KX rfl (by k_is) rfl rfl rfl); (case kB => exact rfl); (case c2 => exact rfl); (case c3 => exact rfl); (case c4 => exact rfl); (case c5 => decide)
  intro h₀' L' h' C'
  refine cs_execs (cs_AssignTuple (cs_Tuple ?_) rfl rfl)
  refine cs_arg ?_ rfl
  refine cs_Call ?_ rfl
  refine wpC_any ?_
  repeat walk_at "m.s"
  refine cs_callType ?_ rfl rfl
  refine cs_arg (wpC_any ?_) rfl
  repeat walk_at "m.s"
  refine cs_args0 ?_
  refine mk_ba_bytes (by walk_at "m.C") hz ?_
  intro D h2 C2 l3
  have n1 : D ≠ dx := ne_above l3 (.tail _ (.head _))
  have q1 : ∀ p ∈ news, p.1 < D := fun p hp => l3 p (by simp [hp])
  refine cs_arg (wpC_any ?_) rfl
  repeat walk_at "m.s"
  refine cs_args0 (wpC_any ?_)
  repeat walk_at "m.s"
  rename_i T _ _ l4
  have n2 : T ≠ dx := ne_above l4 (.tail _ (.tail _ (.head _)))
  refine wpC_any ?_
  refine s_unpack (vs := [.ref D, .int 0 _]) (by walk_at "m.C") (by walk_at "m.mem") rfl rfl rfl ?_
  intro h4 C4
  refine assignInOrder_cons (kas_attr ?_)
  repeat walk_at "m.s"
  walk_at "m.setU"
  refine assignInOrder_cons (kas_attr ?_)
  repeat walk_at "m.s"
  walk_at "m.setU"
  refine assignInOrder_nil ?_
  refine cs_nil ?_
  show Lv _ _ _ _ _ _ _ _ _ _
  refine Lv.intro (by walk_at "m.C") (fun Cc => ⟨rfl, ?_⟩)
  refine k _ _ x ⟨dx, D, _, _, _⟩ _ Cc ⟨.tail _ (.tail _ (.head _)), .tail _ (.tail _ (.tail _ (.head _))), .tail _ (.head _)⟩ (fun p hp => by simp [hp]) ?_
  intro b hb y hy
  simp only [List.mem_cons, List.not_mem_nil, or_false] at hb
  rcases hb with rfl | rfl | rfl
  · exact Nat.lt_irrefl _ (Nat.lt_trans (l1 _ hy) l2)
  · exact Nat.lt_irrefl _ (l1 _ hy)
  · exact Nat.lt_irrefl _ (q1 _ hy)
end

local macro_rules | `(tactic| walk_at "m.cmp") => `(tactic| first | with_reducible refine is_bytes_none ?_ | with_reducible refine isnot_bytes_none ?_)

-- W2
-- INT STEPS
theorem or_add {v c : Int} {k : Nat} (h0 : 0 ≤ v) (h1 : v < 2 ^ k) (hc : 0 ≤ c) : Builtin.bitOr v (c * 2 ^ k) = v + c * 2 ^ k := by
  obtain ⟨a, rfl⟩ := Int.eq_ofNat_of_zero_le h0
  obtain ⟨b, rfl⟩ := Int.eq_ofNat_of_zero_le hc
  have hp : (2 : Int) ^ k = ((2 ^ k : Nat) : Int) := by rw [Int.natCast_pow]; rfl
  rw [hp] at h1 ⊢
  have h1 : a < 2 ^ k := by omega
  have e : ((b : Int) * ((2 ^ k : Nat) : Int)) = ((b * 2 ^ k : Nat) : Int) := by rw [Int.natCast_mul]
  rw [e]
  unfold Builtin.bitOr Builtin.bitAnd Builtin.bitNot
  have n1 : ¬ (0 ≤ -((a : Nat) : Int) - 1) := by omega
  have n2 : ¬ (0 ≤ -((b * 2 ^ k : Nat) : Int) - 1) := by omega
  simp only [decide_eq_false n1, decide_eq_false n2]
  rw [show (-(-((a : Nat) : Int) - 1) - 1).toNat = a by omega, show (-(-((b * 2 ^ k : Nat) : Int) - 1) - 1).toNat = b * 2 ^ k by omega]
  have e2 : (a ||| b * 2 ^ k) = a + b * 2 ^ k := by
    have := Nat.two_pow_add_eq_or_of_lt h1 b
    rw [Nat.mul_comm b, Nat.or_comm, ← this, Nat.add_comm]
  rw [e2]
  omega
section
variable {w : World} {f : Fm} {m : PySem.Str → Option Value} {news : List (Addr × Obj)} {h : Heap} {E : Value → Shared → Prop}
  {g : Array GenState} {d : Drawn} {tk : Nat} {o : OsState} {Q : Value → Shared → Prop}
variable {A : Around} {x y : Int} {t u : Tok}
theorem i_fdiv (hy : y ≠ 0) (hs : y.natAbs < 1073741824) (k : Q (.int (x.fdiv y) tk) ⟨h, g, d, tk + 1, o⟩) : wpAny (MM w) A (binaryOp .FloorDiv (.int x t) (.int y u)) Q E ⟨h, g, d, tk, o⟩ := floordiv_int hy k (.inl (PyProof.noPylong_small hs))
theorem i_mod (hy : y ≠ 0) (k : Q (.int (x.fmod y) tk) ⟨h, g, d, tk + 1, o⟩) : wpAny (MM w) A (binaryOp .Mod (.int x t) (.int y u)) Q E ⟨h, g, d, tk, o⟩ := mod_int' hy k
theorem i_mul (hm : IntMulOk x y) (k : Q (.int (x * y) tk) ⟨h, g, d, tk + 1, o⟩) : wpAny (MM w) A (binaryOp .Mult (.int x t) (.int y u)) Q E ⟨h, g, d, tk, o⟩ := mul_int k hm
theorem i_shl (h0 : 0 ≤ y) (h1 : y ≤ 1000000) (ha : x.natAbs < 2 ^ 64) (k : Q (.int (x * 2 ^ y.toNat) tk) ⟨h, g, d, tk + 1, o⟩) : wpAny (MM w) A (binaryOp .LShift (.int x t) (.int y u)) Q E ⟨h, g, d, tk, o⟩ := lshift_int_small h0 h1 ha k
theorem i_shr (h0 : 0 ≤ y) (k : Q (.int (x.fdiv (2 ^ y.toNat)) tk) ⟨h, g, d, tk + 1, o⟩) : wpAny (MM w) A (binaryOp .RShift (.int x t) (.int y u)) Q E ⟨h, g, d, tk, o⟩ := rshift_int h0 k
theorem i_pow (h0 : 0 ≤ y) (h1 : y ≤ 1000000) (ha : x.natAbs < 2 ^ 64) (k : Q (.int (x ^ y.toNat) tk) ⟨h, g, d, tk + 1, o⟩) : wpAny (MM w) A (binaryOp .Pow (.int x t) (.int y u)) Q E ⟨h, g, d, tk, o⟩ := pow_int_small h0 h1 ha k
theorem i_or (k : Q (.int (Builtin.bitOr x y) tk) ⟨h, g, d, tk + 1, o⟩) : wpAny (MM w) A (binaryOp .BitOr (.int x t) (.int y u)) Q E ⟨h, g, d, tk, o⟩ := or_int k
theorem i_and (k : Q (.int (Builtin.bitAnd x y) tk) ⟨h, g, d, tk + 1, o⟩) : wpAny (MM w) A (binaryOp .BitAnd (.int x t) (.int y u)) Q E ⟨h, g, d, tk, o⟩ := and_int k
theorem i_str {env : Env} {z : PySem.Str} {kk : Nat} {pos : Pos} (k : Q (.str z tk) ⟨h, g, d, tk + 1, o⟩) : wpAny (MM w) A (eval (.Constant (.str z) kk pos) env) Q E ⟨h, g, d, tk, o⟩ := wpAny_Constant_str k
theorem i_bytes {env : Env} {z : List UInt8} {kk : Nat} {pos : Pos} (k : Q (.bytes z.toArray tk) ⟨h, g, d, tk + 1, o⟩) : wpAny (MM w) A (eval (.Constant (.bytes z) kk pos) env) Q E ⟨h, g, d, tk, o⟩ := Constant_bytes k
-- bytearrays in the ledger
variable {a a2 : Addr} {b c : Array UInt8} {q : BK} {p : Int} {n1 n2 : List (Addr × Obj)} {f1 f2 : List Addr} {P : Params}
theorem b_len (C : Cx w f m news h) (hm : (a, baObj b) ∈ news) (hz : b.size ≤ 100) (k : Q (.int b.size (tk + 1)) ⟨h, g, d, tk + 2, o⟩) : wpAny (MM w) A (call (.builtin "len") [.ref a]) Q E ⟨h, g, d, tk, o⟩ := ba_len C hm hz k
theorem b_lenB (hz : c.size ≤ 100) (k : Q (.int c.size (tk + 1)) ⟨h, g, d, tk + 2, o⟩) : wpAny (MM w) A (call (.builtin "len") [.bytes c t]) Q E ⟨h, g, d, tk, o⟩ :=
  KBw.len_K rfl (by rw [KBw.ints_length]; omega) (by rw [KBw.ints_length]; exact k)
theorem Cx.newer (C : Cx w f m news h) (ob : Obj) (hf : ob.isFreed = false := by rfl) : Cx w f m ((h.objs.size, ob) :: news) (h.push ob) ∧ ∀ p ∈ news, p.1 < h.objs.size := ⟨C.to (C.F.push _) (C.N.push C.F _ hf), fun p hp => Heap.lt_size (C.N p hp).1⟩
theorem b_cut {value slice : Expr} {lo hi : Option Int} {vl vu : Value} (C : Cx w f m news h) (hm : (a, baObj b) ∈ news) (hz : b.size ≤ 100) (pl : IsPart vl lo) (pu : IsPart vu hi)
    (k : ∀ D h', Cx w f m ((D, baObj (KBy.picked b lo hi)) :: news) h' → (∀ p ∈ news, p.1 < D) → Q (.ref D) ⟨h', g, d, tk, o⟩)
    (hs : ∀ sl, subscripted slice false (.ref a) (.ref sl) = operate [.ref sl, .ref a] (getItem (.ref a) (.ref sl))) :
    wpAny (MM w) A (subscriptTail value slice (.ref a) (.ref h.objs.size)) Q E ⟨h.push { cls := .type "slice", data := .fields #[vl, vu, .none] }, g, d, tk, o⟩ := by
  obtain ⟨C1, l1⟩ := C.newer { cls := .type "slice", data := .fields #[vl, vu, .none] }
  have ho : (h.push { cls := .type "slice", data := .fields #[vl, vu, .none] }).get? a = some (baObj b) := C1.get (.tail _ hm)
  refine tail_any (T := "bytearray") ⟨_, ho, rfl⟩ ba_slot_getitem.lookup (ba_slice (s := ⟨h.push { cls := .type "slice", data := .fields #[vl, vu, .none] }, g, d, tk, o⟩) ho (Heap.IsSliceOf.new ..) pl pu (by omega) ?_) (hs _)
  obtain ⟨C2, l2⟩ := C1.newer (baObj (KBy.picked b lo hi))
  refine k _ _ (C2.sub fun p hp => ?_) fun p hp => l2 p (.tail _ hp)
  rcases List.mem_cons.mp hp with rfl | hp
  · exact .head _
  · exact .tail _ (.tail _ hp)
theorem b_item {value slice : Expr} {i : Int} (C : Cx w f m news h) (hm : (a, baObj b) ∈ news) (hz : b.size ≤ 100) (h0 : 0 ≤ i) (h1 : i < b.size) (k : ∀ z, b[i.toNat]? = some z → Q (.int (z.toNat : Int) tk) ⟨h, g, d, tk + 1, o⟩)
    (hs : subscripted slice false (.ref a) (.int i t) = operate [.ref a, .int i t] (getItem (.ref a) (.int i t))) : wpAny (MM w) A (subscriptTail value slice (.ref a) (.int i t)) Q E ⟨h, g, d, tk, o⟩ :=
  tail_any (T := "bytearray") ⟨_, C.get hm, rfl⟩ ba_slot_getitem.lookup (ba_item (s := ⟨h, g, d, tk, o⟩) (C.get hm) h0 h1 (by omega) k) hs
theorem b_addB (C : Cx w f m news h) (hm : (a, baObj b) ∈ news) (hz : b.size + c.size ≤ 1000) (k : ∀ D h', Cx w f m ((D, baObj (b ++ c)) :: news) h' → (∀ p ∈ news, p.1 < D) → Q (.ref D) ⟨h', g, d, tk, o⟩) :
    wpAny (MM w) A (binaryOp .Add (.ref a) (.bytes c t)) Q E ⟨h, g, d, tk, o⟩ := ba_add_bytes (C.get hm) hz (k _ _ (C.newer (baObj (b ++ c))).1 (C.newer (baObj (b ++ c))).2)
theorem b_addA (C : Cx w f m news h) (hm : (a, baObj b) ∈ news) (hm2 : (a2, baObj c) ∈ news) (hz : b.size + c.size ≤ 1000) (k : ∀ D h', Cx w f m ((D, baObj (b ++ c)) :: news) h' → (∀ p ∈ news, p.1 < D) → Q (.ref D) ⟨h', g, d, tk, o⟩) :
    wpAny (MM w) A (binaryOp .Add (.ref a) (.ref a2)) Q E ⟨h, g, d, tk, o⟩ := ba_add_ba (C.get hm) (C.get hm2) hz (k _ _ (C.newer (baObj (b ++ c))).1 (C.newer (baObj (b ++ c))).2)
theorem b_bytes (C : Cx w f m news h) (hm : (a, baObj b) ∈ news) (hz : b.size ≤ 100) (k : ∀ t tk', Q (.bytes b t) ⟨h, g, d, tk', o⟩) : wpAny (MM w) A (call (.type "bytes") [.ref a]) Q E ⟨h, g, d, tk, o⟩ := ba_bytes (C.get hm) (by omega) k
theorem BufIn.mono (B : BufIn P n1 a q b p) (k : ∀ p ∈ n1, p ∈ n2) : BufIn P n2 a q b p := ⟨k _ B.hi, k _ B.hd, k _ B.ha⟩
theorem BufIn.ch (B : BufIn P n1 a q b p) (c : Ch n1 f1 n2 f2) (h1 : q.dx ∉ f1) (h2 : q.ba ∉ f1) : BufIn P n2 a q b p := ⟨c.keepF B.hi rfl, c.keep B.hd h1, c.keep B.ha h2⟩
end
local macro_rules | `(tactic| walk_at "m.eval") => `(tactic| first | with_reducible refine i_str ?_ | with_reducible refine i_bytes ?_)
local macro_rules | `(tactic| walk_at "m.int") => `(tactic| first
  | with_reducible refine i_fdiv (by decide) (by decide) ?_
  | with_reducible refine i_mod (by decide) ?_
  | with_reducible refine i_mul (by first | exact IntMulOk.of_left (by decide) | exact IntMulOk.of_right (by decide)) ?_
  | with_reducible refine i_shl (by decide) (by decide) (by decide) ?_
  | with_reducible refine i_shr (by decide) ?_
  | with_reducible refine i_pow (by decide) (by decide) (by decide) ?_)
local macro_rules | `(tactic| walk_at "m.s") => `(tactic| ((with_reducible show wpAny _ _ (binaryOp _ (Value.int _ _) (Value.int _ _)) _ _ _); walk_at "m.int"))
local macro_rules | `(tactic| walk_at "m.call") => `(tactic| first
  | ((with_reducible refine' b_len ?C ?m ?z ?_); (case C => walk_at "m.C"); (case m => walk_at "m.mem"); (case z => assumption))
  | ((with_reducible refine' b_lenB ?z ?_); (case z => assumption)))

local macro_rules | `(tactic| walk_at "m.eval") => `(tactic| first | with_reducible refine i_str ?_ | with_reducible refine i_bytes ?_)
local macro_rules | `(tactic| walk_at "m.int") => `(tactic| first
  | with_reducible refine i_fdiv (by decide) (by decide) ?_
  | with_reducible refine i_mod (by decide) ?_
  | with_reducible refine i_mul (by first | exact IntMulOk.of_left (by decide) | exact IntMulOk.of_right (by decide)) ?_
  | with_reducible refine i_shl (by decide) (by decide) (by decide) ?_
  | with_reducible refine i_shr (by decide) ?_
  | with_reducible refine i_pow (by decide) (by decide) (by decide) ?_)
local macro_rules | `(tactic| walk_at "m.s") => `(tactic| ((with_reducible show wpAny _ _ (binaryOp _ (Value.int _ _) (Value.int _ _)) _ _ _); walk_at "m.int"))
local macro_rules | `(tactic| walk_at "m.call") => `(tactic| first
  | ((with_reducible refine' b_len ?C ?m ?z ?_); (case C => walk_at "m.C"); (case m => walk_at "m.mem"); (case z => assumption))
  | ((with_reducible refine' b_lenB ?z ?_); (case z => assumption)))

end

local macro_rules | `(tactic| walk_at "m.call") => `(tactic| ((with_reducible refine' c_cow_child ?C ?H ?h0 ?hx ?hz ?HC ?hcr ?d ?_); (case C => walk_at "m.C"); (case H => walk_at "m.nd"); (case h0 => omega); (case hx => assumption); (case hz => walk_at "m.len"); (case HC => walk_at "m.nd"); (case hcr => assumption); (case d => walk_at "m.dp"); intro _ _ _))

local macro_rules | `(tactic| walk_at "m.eval") => `(tactic| ((with_reducible refine' s_mcs ?_ ?he); (case he => exact rfl)))
local macro_rules | `(tactic| walk_at "m.attr") => `(tactic| ((with_reducible refine nb_adopt (by walk_at "m.C") (by walk_at "m.nd") ?_); intro _ _ _ _))
local macro_rules | `(tactic| walk_at "m.cw") => `(tactic| first | ((with_reducible show wpAny _ _ (callWith _ _ _ (backTo _ (starEach [Expr.Starred _ _] _)) []) _ _ _); (with_reducible refine' s_cwbs ?C ?m ?k ?_); (case C => walk_at "m.C"); (case m => walk_at "m.mem"); (case k => k_is)))
local macro_rules | `(tactic| walk_at "m.cw") => `(tactic| ((with_reducible refine' s_cws ?C ?k ?_); (case C => walk_at "m.C"); (case k => k_is)))
local macro_rules | `(tactic| walk_at "m.s") => `(tactic| ((with_reducible refine' s_star ?C ?m ?z ?_); (case C => walk_at "m.C"); (case m => walk_at "m.mem"); (case z => exact Nat.le_of_ble_eq_true rfl); intro _ _))

local macro_rules | `(tactic| walk_at "m.cmp") => `(tactic| first | with_reducible refine is_bytes_none ?_ | with_reducible refine isnot_bytes_none ?_)
local macro_rules | `(tactic| walk_at "m.toIf") => `(tactic| repeat ((fail_if_success (with_reducible show wpAny _ _ (execs (Stmt.If _ _ _ _ :: _) _) _ _ _)); walk_at "m.s"))

local macro_rules | `(tactic| walk_at "m.attr") => `(tactic| ((with_reducible refine' o_get ?C ?hi ?hd ?hg ?hh ?ha ?hn ?hl ?hv ?_); (case C => walk_at "m.C"); (case hi => walk_at "m.mem"); (case hd => walk_at "m.mem"); (case hg => k_is); (case hh => k_is); (case ha => k_is); (case hn => k_is); (case hl => k_get); (case hv => exact rfl)))
local macro_rules | `(tactic| walk_at "m.oset") => `(tactic| ((with_reducible refine' o_set ?C ?hi ?hd ?hs ?hp ?ht ?hh ?hl ?e ?hz ?hf ?_); (case C => walk_at "m.C"); (case hi => walk_at "m.mem"); (case hd => walk_at "m.mem"); (case hs => k_is); (case hp => k_is); (case ht => k_is); (case hh => k_is); (case hl => k_get); (case e => k_put); (case hz => exact Nat.le_of_ble_eq_true rfl); (case hf => exact rfl)))
local macro_rules | `(tactic| walk_at "m.meth") => `(tactic| ((with_reducible refine' o_meth ?C ?hi ?hd ?hg ?hf ?ht ?hl ?_); (case C => walk_at "m.C"); (case hi => walk_at "m.mem"); (case hd => walk_at "m.mem"); (case hg => k_is); (case hf => k_is); (case ht => k_is); (case hl => k_get)))

local macro_rules | `(tactic| walk_at "m.attr") => `(tactic| first
  | with_reducible refine u_btree (by walk_at "m.C") (by assumption) ?_
  | with_reducible refine u_node (by walk_at "m.C") (by assumption) rfl ?_
  | with_reducible refine u_idx (by walk_at "m.C") (by assumption) ?_
  | with_reducible refine u_rc (by walk_at "m.C") (by assumption) ?_
  | with_reducible refine u_inc (by walk_at "m.C") (by assumption) ?_
  | with_reducible refine u_pl (by walk_at "m.C") (by assumption) ?_
  | with_reducible refine u_parked (by walk_at "m.C") (by assumption) ?_)
local macro_rules | `(tactic| walk_at "m.uset") => `(tactic| first
  | with_reducible refine us_node (by walk_at "m.C") (by assumption) ?_
  | with_reducible refine us_idx (by walk_at "m.C") (by assumption) ?_
  | with_reducible refine us_rc (by walk_at "m.C") (by assumption) ?_
  | with_reducible refine us_inc (by walk_at "m.C") (by assumption) ?_
  | with_reducible refine us_parked (by walk_at "m.C") (by assumption) ?_
  | with_reducible refine us_pk (by walk_at "m.C") (by assumption) ?_
  | with_reducible refine us_pr (by walk_at "m.C") (by assumption) ?_)
local macro_rules | `(tactic| walk_at "m.meth") => `(tactic| first
  | with_reducible refine um_unpark (by walk_at "m.C") (by assumption) ?_
  | with_reducible refine um_least (by walk_at "m.C") (by assumption) ?_
  | with_reducible refine um_greatest (by walk_at "m.C") (by assumption) ?_)

local macro_rules | `(tactic| walk_at "m.call") => `(tactic| ((with_reducible refine' c_unpark ?C ?U ?d ?_); (case C => walk_at "m.C"); (case U => assumption); (case d => walk_at "m.dp"); intro _ _ _))

local macro_rules | `(tactic| walk_at "m.N") => `(tactic| exact trefs_length _)

local macro_rules | `(tactic| walk_at "m.name") => `(tactic| first
  | ((with_reducible refine' x_ld ?C ?hv ?_ ?hl ?hd); (case hl => exact rfl); (case C => walk_at "m.C"); (case hv => exact rfl); (case hd => decide))
  | ((with_reducible refine' x_ldg ?C ?e ?_ ?hx ?hd); (case C => walk_at "m.C"); (case e => k_is); (case hx => exact rfl); (case hd => decide))
  | ((with_reducible refine' x_ldb ?C ?e ?hb ?hn ?_ ?hx ?hd); (case C => walk_at "m.C"); (case e => k_is); (case hb => boot_by_name); (case hn => decide); (case hx => exact rfl); (case hd => decide)))
local macro_rules | `(tactic| walk_at "m.kws") => `(tactic| first | with_reducible refine kws_nil ?_ | with_reducible refine kws_cons ?_)

local macro_rules | `(tactic| walk_at "m.cmp") => `(tactic| first | with_reducible refine is_bytes_none ?_ | with_reducible refine isnot_bytes_none ?_)

local macro_rules | `(tactic| walk_at "m.eval") => `(tactic| first | with_reducible refine i_str ?_ | with_reducible refine i_bytes ?_)
local macro_rules | `(tactic| walk_at "m.int") => `(tactic| first
  | with_reducible refine i_fdiv (by decide) (by decide) ?_
  | with_reducible refine i_mod (by decide) ?_
  | with_reducible refine i_mul (by first | exact IntMulOk.of_left (by decide) | exact IntMulOk.of_right (by decide)) ?_
  | with_reducible refine i_shl (by decide) (by decide) (by decide) ?_
  | with_reducible refine i_shr (by decide) ?_
  | with_reducible refine i_pow (by decide) (by decide) (by decide) ?_)
local macro_rules | `(tactic| walk_at "m.s") => `(tactic| ((with_reducible show wpAny _ _ (binaryOp _ (Value.int _ _) (Value.int _ _)) _ _ _); walk_at "m.int"))
local macro_rules | `(tactic| walk_at "m.call") => `(tactic| first
  | ((with_reducible refine' b_len ?C ?m ?z ?_); (case C => walk_at "m.C"); (case m => walk_at "m.mem"); (case z => assumption))
  | ((with_reducible refine' b_lenB ?z ?_); (case z => assumption)))

-- W3
section
variable {w : World} {f : Fm} {m : PySem.Str → Option Value} {news : List (Addr × Obj)} {h : Heap} {E : Value → Shared → Prop}
  {g : Array GenState} {d : Drawn} {tk : Nat} {o : OsState} {Q : Value → Shared → Prop}
variable {x : Addr} {q : BK} {b c : Array UInt8} {t u : Tok} {p v : Int} {ks : List Int}
theorem picked_pre {b : Array UInt8} {n : Nat} (hn : n ≤ b.size) : KBw.bInts (KBy.picked b none (some (n : Int))) = (KBw.bInts b).take n := by
  rw [KBc.ints_picked rfl]
  show List.take (clipAt _ (n : Int) - 0) (List.drop 0 _) = _
  rw [clipAt_nat, KBw.ints_length, Nat.min_eq_left hn]; rfl
theorem picked_suf {b : Array UInt8} {n : Nat} (hn : n ≤ b.size) : KBw.bInts (KBy.picked b (some (n : Int)) none) = (KBw.bInts b).drop n := by
  rw [KBc.ints_picked rfl]
  show List.take (_ - clipAt _ (n : Int)) (List.drop (clipAt _ (n : Int)) _) = _
  rw [clipAt_nat, KBw.ints_length, Nat.min_eq_left hn]
  exact List.take_of_length_le (by rw [List.length_drop, KBw.ints_length]; exact Nat.le_refl _)
theorem picked_mid {b : Array UInt8} {n r : Nat} (hn : n + r ≤ b.size) : KBw.bInts (KBy.picked b (some (n : Int)) (some ((n + r : Nat) : Int))) = ((KBw.bInts b).drop n).take r := by
  rw [KBc.ints_picked rfl]
  show List.take (clipAt _ ((n + r : Nat) : Int) - clipAt _ (n : Int)) (List.drop (clipAt _ (n : Int)) _) = _
  rw [clipAt_nat, clipAt_nat, KBw.ints_length, Nat.min_eq_left hn, Nat.min_eq_left (by omega), Nat.add_sub_cancel_left]
theorem c_push_bytes (C : Cx w f m news h) (B : BufIn w.params news x q b 0) (hz : c.size ≤ b.size) (hz2 : b.size ≤ 20) (hd : f.dp + 3 < 1000)
    (k : ∀ h' tk' q' b' news', Cx w f m news' h' → BufIn w.params news' x q' b' c.size → KBw.bInts b' = KBw.bInts c ++ (KBw.bInts b).drop c.size → Ch news [q.dx] news' [q.dx] → q'.dx = q.dx → (q'.ba ≠ q.dx ∧ ∀ y, (q'.ba, y) ∉ news) → Q .none ⟨h', g, d, tk', o⟩) :
    wpAny (MM w) (AR f) (call (.ref 155) [.ref x, .bytes c t]) Q E ⟨h, g, d, tk, o⟩ := by
  have Hi := B.hi
  have Hd := B.hd
  have Ha := B.ha
  have z1 : c.size ≤ 100 := by omega
  have z2 : b.size ≤ 100 := by omega
  refine' enter (binds := [("self", .ref x), ("value", .bytes c t)]) C ?k6 ?k7 ?kd ?k9 ?kB ?_ ?c2 ?c3 ?c4 ?c5
  (case k6 => k_is); (case k7 => k_is); (case kd => omega); (case k9 => exact rfl); (case kB => exact rfl); (case c2 => exact rfl); (case c3 => exact rfl); (case c4 => exact rfl); (case c5 => decide)
  intro h₀' L' h' C'
  clear C
  repeat walk_at "m.s"
  refine b_cut (lo := none) (hi := some 0) (by walk_at "m.C") Ha z2 .none (.int _ _) ?_ (fun _ => rfl)
  intro D1 h1 C1 l1
  have e1 : KBw.bInts (KBy.picked b none (some 0)) = [] := picked_pre (n := 0) (Nat.zero_le _)
  have y1 : (KBy.picked b none (some 0)).size ≤ b.size := picked_size
  repeat walk_at "m.s"
  refine b_addB (by walk_at "m.C") (.head _) (by omega) ?_
  intro D2 h2 C2 l2
  repeat walk_at "m.s"
  refine b_cut (lo := some (0 + (c.size : Int))) (hi := none) (by walk_at "m.C") (by walk_at "m.mem") z2 (.int _ _) .none ?_ (fun _ => rfl)
  intro D3 h3 C3 l3
  have e3 : KBw.bInts (KBy.picked b (some (0 + (c.size : Int))) none) = (KBw.bInts b).drop c.size := by rw [Int.zero_add]; exact picked_suf hz
  have y3 : (KBy.picked b (some (0 + (c.size : Int))) none).size ≤ b.size := picked_size
  repeat walk_at "m.s"
  refine b_addA (by walk_at "m.C") (.tail _ (.head _)) (.head _) (by rw [Array.size_append]; omega) ?_
  intro D4 h4 C4 l4
  have q4 : ∀ p ∈ news, p.1 < D4 := fun p hp => l4 p (by simp [hp])
  have n4 : D4 ≠ q.dx := Nat.ne_of_gt (q4 _ Hd)
  repeat walk_at "m.s"
  rename_i T h5 C5 l5
  refine s_unpack (vs := [.ref D4, .int (0 + (c.size : Int)) _]) (by walk_at "m.C") (by walk_at "m.mem") rfl rfl rfl ?_
  intro h6 C6
  refine assignInOrder_cons (kas_attr ?_)
  repeat walk_at "m.s"
  walk_at "m.oset"
  intro h7 news7 C7 I7 D7 ch7
  refine assignInOrder_cons (kas_attr ?_)
  repeat walk_at "m.s"
  walk_at "m.oset"
  intro h8 news8 C8 I8 D8 ch8
  refine assignInOrder_nil ?_
  repeat walk_at "m.s"
  walk_at "m.end"
  have A7 := ch7.keep (b := D4) (.tail _ (.head _)) (by rw [List.mem_singleton]; exact n4)
  have A8 := ch8.keep A7 (by rw [List.mem_singleton]; exact n4)
  have D8' := D8
  rw [Int.zero_add] at D8'
  refine fun Cc => k _ _ ⟨q.dx, D4, _, _, _⟩ _ news8 Cc ⟨I8, D8', A8⟩ ?_ ?_ rfl ⟨n4, fun y hy => Nat.lt_irrefl _ (q4 _ hy)⟩
  · rw [KBw.ints_app (KBw.ints_app e1 rfl) e3]; rfl
  · exact ((Ch.none (fun p hp => by simp [hp])).weak (fun _ h => nomatch h) (fun b hb => .inr hb)).step ch7 (fun _ h => h) |>.step ch8 (fun _ h => h)
end

-- W4
section
variable {w : World} {f : Fm} {m : PySem.Str → Option Value} {news : List (Addr × Obj)} {h : Heap} {E : Value → Shared → Prop}
  {g : Array GenState} {d : Drawn} {tk : Nat} {o : OsState} {Q : Value → Shared → Prop}
variable {x : Addr} {q : BK} {b c : Array UInt8} {t u : Tok} {p v : Int} {ks : List Int}
theorem m_to_bytes {pl : Sem Bool} {A : Around} {QM : Value × List Value → Shared → Prop} (k : QM (.builtin "int.to_bytes", [.int v t]) ⟨h, g, d, tk, o⟩) : wpAny (MM w) A (getMethod (.int v t) "to_bytes" pl) QM E ⟨h, g, d, tk, o⟩ := KTBy.method k
local macro_rules | `(tactic| walk_at "m.meth") => `(tactic| with_reducible refine m_to_bytes ?_)
theorem c_push_uint_var (C : Cx w f m news h) (B : BufIn w.params news x q b 0) (hb : b.size = 8) (hv : Rng v) (hd : f.dp + 4 < 1000)
    (k : ∀ h' tk' q' b' news', Cx w f m news' h' → BufIn w.params news' x q' b' (encN v) → KBw.bInts b' = encI v ++ (KBw.bInts b).drop (encN v) → Ch news [q.dx] news' [q.dx] → q'.dx = q.dx → (q'.ba ≠ q.dx ∧ ∀ y, (q'.ba, y) ∉ news) → Q .none ⟨h', g, d, tk', o⟩) :
    wpAny (MM w) (AR f) (call (.ref 190) [.ref x, .int v t]) Q E ⟨h, g, d, tk, o⟩ := by
  have Hi := B.hi
  have Hd := B.hd
  obtain ⟨hv0, hv1⟩ := hv
  refine' enter (binds := [("self", .ref x), ("value", .int v t)]) C ?k6 ?k7 ?kd ?k9 ?kB ?_ ?c2 ?c3 ?c4 ?c5
  (case k6 => k_is); (case k7 => k_is); (case kd => omega); (case k9 => exact rfl); (case kB => exact rfl); (case c2 => exact rfl); (case c3 => exact rfl); (case c4 => exact rfl); (case c5 => decide)
  intro h₀' L' h' C'
  clear C
  repeat walk_at "m.s"
  refine ifB_dec (fun h1 => ?_) (fun h1 => ?_)
  · repeat walk_at "m.s"
    have hN : encN v = 1 ∧ encV v = v + 0 * 2 ^ 6 := by rcases encN_cases v ⟨hv0, hv1⟩ with ⟨_, e1, e2⟩ | ⟨_, _, e1, e2⟩ | ⟨_, _, e1, e2⟩ | ⟨_, e1, e2⟩ <;> first | (exfalso; omega) | exact ⟨e1, by rw [e2]; omega⟩
    obtain ⟨hN, hV⟩ := hN
    have hor : Builtin.bitOr v ((Int.fdiv 1 2 - Int.fdiv 1 8) * 2 ^ ((8 : Int) * 1 - 2).toNat) = encV v := by rw [show (Int.fdiv 1 2 - Int.fdiv 1 8) * 2 ^ ((8 : Int) * 1 - 2).toNat = 0 * 2 ^ 6 from by decide, or_add hv0 (by omega) (by decide), hV]
    refine i_or ?_
    rw [hor]
    repeat walk_at "m.s"
    refine KTBy.to_big (k := 1) (B := 256) (by decide) (by decide) (by omega) (by omega) ?_
    intro bb t2 k2 hb1 hl
    have hbi : KBw.bInts bb = encI v := by rw [hb1]; unfold encI; rw [hN]
    have hbs : bb.size = 1 := by rw [← KBw.ints_length, hb1, hl]
    repeat walk_at "m.s"
    refine c_push_bytes (by walk_at "m.C") B (by omega) (by omega) (by walk_at "m.dp") ?_
    intro h5 tk5 q5 b5 news5 C5 B5 hb5 ch5 e5 f5
    repeat walk_at "m.s"
    walk_at "m.end"
    rw [hbs] at B5 hb5
    exact fun Cc => k _ _ q5 b5 news5 Cc (by rw [hN]; exact B5) (by rw [hb5, hbi, hN]) ch5 e5 f5
  · repeat walk_at "m.s"
    refine ifB_dec (fun h2 => ?_) (fun h2 => ?_)
    · repeat walk_at "m.s"
      have hN : encN v = 2 ∧ encV v = v + 1 * 2 ^ 14 := by rcases encN_cases v ⟨hv0, hv1⟩ with ⟨_, e1, e2⟩ | ⟨_, _, e1, e2⟩ | ⟨_, _, e1, e2⟩ | ⟨_, e1, e2⟩ <;> first | (exfalso; omega) | exact ⟨e1, by rw [e2]; omega⟩
      obtain ⟨hN, hV⟩ := hN
      have hor : Builtin.bitOr v ((Int.fdiv 2 2 - Int.fdiv 2 8) * 2 ^ ((8 : Int) * 2 - 2).toNat) = encV v := by rw [show (Int.fdiv 2 2 - Int.fdiv 2 8) * 2 ^ ((8 : Int) * 2 - 2).toNat = 1 * 2 ^ 14 from by decide, or_add hv0 (by omega) (by decide), hV]
      refine i_or ?_
      rw [hor]
      repeat walk_at "m.s"
      refine KTBy.to_big (k := 2) (B := 65536) (by decide) (by decide) (by omega) (by omega) ?_
      intro bb t2 k2 hb1 hl
      have hbi : KBw.bInts bb = encI v := by rw [hb1]; unfold encI; rw [hN]
      have hbs : bb.size = 2 := by rw [← KBw.ints_length, hb1, hl]
      repeat walk_at "m.s"
      refine c_push_bytes (by walk_at "m.C") B (by omega) (by omega) (by walk_at "m.dp") ?_
      intro h5 tk5 q5 b5 news5 C5 B5 hb5 ch5 e5 f5
      repeat walk_at "m.s"
      walk_at "m.end"
      rw [hbs] at B5 hb5
      exact fun Cc => k _ _ q5 b5 news5 Cc (by rw [hN]; exact B5) (by rw [hb5, hbi, hN]) ch5 e5 f5
    · repeat walk_at "m.s"
      refine ifB_dec (fun h3 => ?_) (fun h3 => ?_)
      · repeat walk_at "m.s"
        have hN : encN v = 4 ∧ encV v = v + 2 * 2 ^ 30 := by rcases encN_cases v ⟨hv0, hv1⟩ with ⟨_, e1, e2⟩ | ⟨_, _, e1, e2⟩ | ⟨_, _, e1, e2⟩ | ⟨_, e1, e2⟩ <;> first | (exfalso; omega) | exact ⟨e1, by rw [e2]; omega⟩
        obtain ⟨hN, hV⟩ := hN
        have hor : Builtin.bitOr v ((Int.fdiv 4 2 - Int.fdiv 4 8) * 2 ^ ((8 : Int) * 4 - 2).toNat) = encV v := by rw [show (Int.fdiv 4 2 - Int.fdiv 4 8) * 2 ^ ((8 : Int) * 4 - 2).toNat = 2 * 2 ^ 30 from by decide, or_add hv0 (by omega) (by decide), hV]
        refine i_or ?_
        rw [hor]
        repeat walk_at "m.s"
        refine KTBy.to_big (k := 4) (B := 4294967296) (by decide) (by decide) (by omega) (by omega) ?_
        intro bb t2 k2 hb1 hl
        have hbi : KBw.bInts bb = encI v := by rw [hb1]; unfold encI; rw [hN]
        have hbs : bb.size = 4 := by rw [← KBw.ints_length, hb1, hl]
        repeat walk_at "m.s"
        refine c_push_bytes (by walk_at "m.C") B (by omega) (by omega) (by walk_at "m.dp") ?_
        intro h5 tk5 q5 b5 news5 C5 B5 hb5 ch5 e5 f5
        repeat walk_at "m.s"
        walk_at "m.end"
        rw [hbs] at B5 hb5
        exact fun Cc => k _ _ q5 b5 news5 Cc (by rw [hN]; exact B5) (by rw [hb5, hbi, hN]) ch5 e5 f5
      · repeat walk_at "m.s"
        have hN : encN v = 8 ∧ encV v = v + 3 * 2 ^ 62 := by rcases encN_cases v ⟨hv0, hv1⟩ with ⟨_, e1, e2⟩ | ⟨_, _, e1, e2⟩ | ⟨_, _, e1, e2⟩ | ⟨_, e1, e2⟩ <;> first | (exfalso; omega) | exact ⟨e1, by rw [e2]; omega⟩
        obtain ⟨hN, hV⟩ := hN
        have hor : Builtin.bitOr v ((Int.fdiv 8 2 - Int.fdiv 8 8) * 2 ^ ((8 : Int) * 8 - 2).toNat) = encV v := by rw [show (Int.fdiv 8 2 - Int.fdiv 8 8) * 2 ^ ((8 : Int) * 8 - 2).toNat = 3 * 2 ^ 62 from by decide, or_add hv0 (by omega) (by decide), hV]
        refine i_or ?_
        rw [hor]
        repeat walk_at "m.s"
        refine KTBy.to_big (k := 8) (B := 18446744073709551616) (by decide) (by decide) (by omega) (by omega) ?_
        intro bb t2 k2 hb1 hl
        have hbi : KBw.bInts bb = encI v := by rw [hb1]; unfold encI; rw [hN]
        have hbs : bb.size = 8 := by rw [← KBw.ints_length, hb1, hl]
        repeat walk_at "m.s"
        refine c_push_bytes (by walk_at "m.C") B (by omega) (by omega) (by walk_at "m.dp") ?_
        intro h5 tk5 q5 b5 news5 C5 B5 hb5 ch5 e5 f5
        repeat walk_at "m.s"
        walk_at "m.end"
        rw [hbs] at B5 hb5
        exact fun Cc => k _ _ q5 b5 news5 Cc (by rw [hN]; exact B5) (by rw [hb5, hbi, hN]) ch5 e5 f5
end

local macro_rules | `(tactic| walk_at "m.meth") => `(tactic| with_reducible refine m_to_bytes ?_)

-- W5
section
variable {w : World} {f : Fm} {m : PySem.Str → Option Value} {news : List (Addr × Obj)} {h : Heap} {E : Value → Shared → Prop}
  {g : Array GenState} {d : Drawn} {tk : Nat} {o : OsState} {Q : Value → Shared → Prop}
variable {x : Addr} {q : BK} {b c : Array UInt8} {t u : Tok} {p v : Int} {ks : List Int}
theorem enter_codeW {R : Result → Shared → Prop} {name qual : PySem.Str} {params : Arguments} {body : List Stmt} {scope : Scope} {dV kV doc pm cdv ct oc : Value} {an od : Option Addr} {osl : Array (Option Value)}
    {fa : Addr} {args : Args} {un : Nat} {binds : List (PySem.Str × Value)} (C : Cx w f m news h)
    (ho : (Mine.hd.heap_39 w.params).lookup fa = some ⟨oc, od, .func (fnOf name qual params body scope dV kV doc pm an cdv ct), osl⟩) (hcd : codeIn (Mine.hd.heap_39 w.params) cdv qual = true) {dp : Nat} (hroom : dp < 1000) (hun : un ≤ 5 * dp + 52)
    (hbind : bindArgs (fnOf name qual params body scope dV kV doc pm an cdv ct) args = pure binds)
    (hloc : (binds.all fun x => decide (scope.names.lookup x.1 = some .local)) = true)
    (hb : ∀ h₀' L' h', Cx w ⟨envOf qual scope L' fa cdv, f.env :: f.outer, h₀', L', dp + 1, un + 3, f.gd⟩ (fun y => binds.reverse.lookup y) news h' →
      wpAny (MM w) (AR ⟨envOf qual scope L' fa cdv, f.env :: f.outer, h₀', L', dp + 1, un + 3, f.gd⟩) (execs body (envOf qual scope L' fa cdv))
        (Lv w f m ⟨envOf qual scope L' fa cdv, f.env :: f.outer, h₀', L', dp + 1, un + 3, f.gd⟩ g d o fun v s' => R (.ok (.ret v)) s') (fun _ _ => False) ⟨h', g, d, tk + binds.length, o⟩)
    (hco : scope.isCoroutine = false) (hgen : scope.isGenerator = false) (hk : scope.kind = .function) (hcell : ∀ x ∈ scope.names, x.2 ≠ .cell) :
    codeAny (MM w) { handled := none, depth := dp, frames := some (f.env :: f.outer), guards := f.gd, units := un } (.call (.ref fa) args) R ⟨h, g, d, tk, o⟩ := by
  obtain ⟨⟨A₀, base, B⟩, F, X, N, ⟨p, lo, me, mg, mb, T⟩, hf, hke, hu⟩ := C
  refine code_def B F X N T rfl hf hke ho hcd hroom (BindsTo.of_eq hbind) (locs hloc) (fun g' L' h₁ FG F' N' B' X' T' => ?_) hco hgen hk hcell
  refine wpAny_mono (hb g' L' h₁ ⟨⟨_, _, B'⟩, F', X', N', ⟨p, lo, me, mg, mb, T'⟩, rfl, hk, by show un + 3 ≤ 5 * (dp + 1) + 50; omega⟩) (fun fl s' hl => ?_) fun _ _ x => x.elim
  obtain ⟨h', tk', m', news', rfl, C', k⟩ := hl
  exact leaveK_ C'.F C'.N fun F₂ N₂ => k ⟨⟨_, _, B⟩, F₂, X, N₂, ⟨p, lo, me, mg, mb, T⟩, hf, hke, hu⟩
theorem a_data {n : Nat} {ex : Bool} (C : Cx w f m news h) (B : BufIn w.params news x q b n) (hn : n ≤ b.size) (hz : b.size ≤ 20) (hd : f.dp + 2 < 1000)
    (k : ∀ h' tk' bb t, Cx w f m news h' → KBw.bInts bb = (KBw.bInts b).take n → Q (.bytes bb t) ⟨h', g, d, tk', o⟩) : wpAny (MM w) (AR f) (getAttr (.ref x) "data" ex) Q E ⟨h, g, d, tk, o⟩ := by
  have Hi := B.hi
  have Hd := B.hd
  have Ha := B.ha
  have z2 : b.size ≤ 100 := by omega
  have hu := C.u
  refine' get_prop (K := Mine.hd.heap_39 w.params) C.F C.X (InstAt.of_news C.N Hi Hd) ?k4 ?k5 ?k6 ?k7 ?k8 ?k9 ?_
  (case k4 => k_is); (case k5 => k_is); (case k6 => k_is); (case k7 => k_is); (case k8 => k_is); (case k9 => k_is)
  show codeAny (MM w) { handled := none, depth := f.dp, frames := some (f.env :: f.outer), guards := f.gd, units := f.un + 1 } _ _ ⟨h, g, d, tk + 1, o⟩
  refine' enter_codeW (binds := [("self", .ref x)]) C ?k6 ?k7 ?kd ?ku ?k9 ?kB ?_ ?c2 ?c3 ?c4 ?c5
  (case k6 => k_is); (case k7 => k_is); (case kd => omega); (case ku => omega); (case k9 => exact rfl); (case kB => exact rfl); (case c2 => exact rfl); (case c3 => exact rfl); (case c4 => exact rfl); (case c5 => decide)
  intro h₀' L' h' C'
  repeat walk_at "m.s"
  refine b_cut (lo := none) (hi := some (n : Int)) (by walk_at "m.C") Ha z2 .none (.int _ _) ?_ (fun _ => rfl)
  intro D1 h1 C1 l1
  have y1 : (KBy.picked b none (some (n : Int))).size ≤ b.size := picked_size
  repeat walk_at "m.s"
  refine b_bytes (by walk_at "m.C") (.head _) (by omega) ?_
  intro t1 tk1
  repeat walk_at "m.s"
  walk_at "m.end"
  intro Cc
  dsimp only
  rw [handedOut_of rfl]
  exact wpAny_pure (k _ _ _ _ (Cc.sub fun _ h => .tail _ h) (picked_pre hn))
theorem c_encode {t : Tok} (C : Cx w f m news h) (hv : Rng v) (hd : f.dp + 6 < 1000)
    (k : ∀ h' tk' bb t, Cx w f m news h' → Enc bb v → Q (.bytes bb t) ⟨h', g, d, tk', o⟩) : wpC (MM w) (AR f) (call (.ref 204) [.int v t]) Q E ⟨h, g, d, tk, o⟩ := by
  have hu := C.u
  refine wpC_call ?_
  refine' enterC_code (binds := [("value", .int v t)]) C ?k6 ?k7 ?kd ?ku ?k9 ?kB ?_ ?c2 ?c3 ?c4 ?c5
  (case k6 => k_is); (case k7 => k_is); (case kd => omega); (case ku => omega); (case k9 => exact BindsTo.of_eq rfl); (case kB => exact rfl); (case c2 => exact rfl); (case c3 => exact rfl); (case c4 => exact rfl); (case c5 => decide)
  intro h₀' L' h' C'
  refine cs_execs (cs_Assign (cs_CallKW (wpC_any ?_) rfl) rfl)
  repeat walk_at "m.s"
  refine cs_callKW (K := Mine.hd.heap_39 w.params) (by k_is) rfl ?_ rfl
  repeat (first | walk_at "m.kws" | walk_at "m.s")
  show wpC _ _ (call (.ref 193) [] [("capacity", .int 8 407)]) _ _ _
  refine bf_cap (by walk_at "m.C") (by walk_at "m.dp") ?_
  intro h2 tk2 x q news2 C2 B2 sb fr
  have Hi := B2.hi
  have Hd := B2.hd
  refine wpC_any ?_
  repeat walk_at "m.s"
  refine wpC_any ?_
  repeat walk_at "m.s"
  refine c_push_uint_var (by walk_at "m.C") B2 rfl hv (by walk_at "m.dp") ?_
  intro h3 tk3 q3 b3 news3 C3 B3 hb3 ch3 e3 f3
  clear Hi Hd
  have Hi := B3.hi
  have Hd := B3.hd
  have hN : encN v ≤ 8 := by rcases encN_cases v hv with ⟨_, e1, _⟩ | ⟨_, _, e1, _⟩ | ⟨_, _, e1, _⟩ | ⟨_, e1, _⟩ <;> omega
  have hs : b3.size = 8 := by
    have := congrArg List.length hb3
    rw [KBw.ints_length, List.length_append, encI_length, List.length_drop, KBw.ints_length, Array.size_replicate] at this
    omega
  repeat walk_at "m.s"
  refine a_data (by walk_at "m.C") B3 (by omega) (by omega) (by walk_at "m.dp") ?_
  intro h4 tk4 bb t4 C4 hbb
  repeat walk_at "m.s"
  walk_at "m.end"
  have dxn : ∀ p ∈ news, p.1 ∉ [q.dx] := fun p hp e => fr q.dx (by simp) p.2 (by rw [← List.mem_singleton.mp e]; exact hp)
  exact fun Cc => k _ _ bb t4 (Cc.sub fun p hp => ch3.keep (sb p hp) (dxn p hp)) ⟨by rw [hbb, hb3, List.take_left' (encI_length v)], hv⟩
end

-- W6
theorem value_little : ∀ (k : Nat) (x : Int), 0 ≤ x → x < 256 ^ k → KFB.value (KTBy.little k x).reverse = x := by
  have hv : ∀ l : List Int, KFB.value l.reverse = l.foldr (fun k a => a * 256 + k) 0 := fun l => by unfold KFB.value; rw [List.foldl_reverse]
  intro k
  induction k with
  | zero =>
    intro x h0 h1
    have e : (256 : Int) ^ 0 = 1 := rfl
    rw [e] at h1
    obtain rfl : x = 0 := by omega
    rfl
  | succ k ih =>
    intro x h0 h1
    rw [Int.pow_succ] at h1
    have := ih (x / 256) (by omega) (by generalize (256 : Int) ^ k = p at *; omega)
    rw [hv] at this ⊢
    show (KTBy.little k (x / 256)).foldr (fun k a => a * 256 + k) 0 * 256 + x % 256 = x
    rw [this]; omega
theorem value_enc (v : Int) (h : Rng v) : KFB.value (encI v) = encV v := by
  unfold encI
  obtain ⟨h0, h1⟩ := h
  rcases encN_cases v ⟨h0, h1⟩ with ⟨_, e1, e2⟩ | ⟨_, _, e1, e2⟩ | ⟨_, _, e1, e2⟩ | ⟨_, e1, e2⟩ <;> rw [e1, e2] <;> exact value_little _ _ (by omega) (by omega)
section
variable {w : World} {f : Fm} {m : PySem.Str → Option Value} {news : List (Addr × Obj)} {h : Heap} {E : Value → Shared → Prop}
  {g : Array GenState} {d : Drawn} {tk : Nat} {o : OsState} {Q : Value → Shared → Prop}
variable {x : Addr} {q : BK} {b c : Array UInt8} {t u : Tok} {p v : Int} {ks : List Int} {A : Around}
theorem BufIn.of {P : Params} {dx ba k1 k2 tp : Nat} (h1 : (x, instObj 193 dx) ∈ news) (h2 : (dx, dictOf [⟨PyData.keyHash P "_octets", .str "_octets" k1, .ref ba⟩, ⟨PyData.keyHash P "_place", .str "_place" k2, .int p tp⟩] 2) ∈ news) (h3 : (ba, baObj b) ∈ news) :
    ∃ q : BK, q.dx = dx ∧ q.ba = ba ∧ BufIn P news x q b p := ⟨⟨dx, ba, k1, k2, tp⟩, rfl, rfl, h1, h2, h3⟩
theorem c_pull_bytes {n r : Nat} (C : Cx w f m news h) (B : BufIn w.params news x q b n) (hr : n + r ≤ b.size) (hz2 : b.size ≤ 20) (hd : f.dp + 2 < 1000)
    (k : ∀ h' tk' q' bb t news', Cx w f m news' h' → BufIn w.params news' x q' b (n + r : Nat) → KBw.bInts bb = ((KBw.bInts b).drop n).take r → Ch news [q.dx] news' [q.dx] → q'.dx = q.dx → q'.ba = q.ba → Q (.bytes bb t) ⟨h', g, d, tk', o⟩) :
    wpAny (MM w) (AR f) (call (.ref 113) [.ref x, .int r t]) Q E ⟨h, g, d, tk, o⟩ := by
  have Hi := B.hi
  have Hd := B.hd
  have Ha := B.ha
  have z2 : b.size ≤ 100 := by omega
  have nba : q.ba ∉ [q.dx] := by rw [List.mem_singleton]; exact C.ne Ha Hd (cls_ne (by simp))
  refine' enter (binds := [("self", .ref x), ("length", .int r t)]) C ?k6 ?k7 ?kd ?k9 ?kB ?_ ?c2 ?c3 ?c4 ?c5
  (case k6 => k_is); (case k7 => k_is); (case kd => omega); (case k9 => exact rfl); (case kB => exact rfl); (case c2 => exact rfl); (case c3 => exact rfl); (case c4 => exact rfl); (case c5 => decide)
  intro h₀' L' h' C'
  clear C
  repeat walk_at "m.s"
  walk_at "m.oset"
  intro h7 news7 C7 I7 D7 ch7
  have A7 := ch7.keep Ha nba
  clear Hi Hd Ha
  repeat walk_at "m.s"
  refine b_cut (lo := some ((n : Int) + r - r)) (hi := some ((n : Int) + r)) (by walk_at "m.C") A7 z2 (.int _ _) (.int _ _) ?_ (fun _ => rfl)
  intro D1 h1 C1 l1
  have e1 : KBw.bInts (KBy.picked b (some ((n : Int) + r - r)) (some ((n : Int) + r))) = ((KBw.bInts b).drop n).take r := by
    rw [Int.add_sub_cancel]; exact picked_mid hr
  have y1 : (KBy.picked b (some ((n : Int) + r - r)) (some ((n : Int) + r))).size ≤ b.size := picked_size
  repeat walk_at "m.s"
  refine b_bytes (by walk_at "m.C") (.head _) (by omega) ?_
  intro t1 tk1
  repeat walk_at "m.s"
  walk_at "m.end"
  have ec : (n : Int) + r = ((n + r : Nat) : Int) := by omega
  rw [ec] at D7
  obtain ⟨q7, r1, r2, B7⟩ := BufIn.of I7 D7 A7
  exact fun Cc => k _ _ q7 _ t1 news7 (Cc.sub fun _ h => .tail _ h) B7 e1 ch7 r1 r2
theorem m_from_bytes {pl : Sem Bool} {QM : Value × List Value → Shared → Prop} (C : Cx w f m news h) (k : ∀ x h', Cx w f m ((x, KFB.bound) :: news) h' → (∀ p ∈ news, p.1 < x) → QM (.ref x, []) ⟨h', g, d, tk + 1, o⟩) : wpAny (MM w) A (getMethod (.type "int") "from_bytes" pl) QM E ⟨h, g, d, tk, o⟩ := by
  refine' KFB.getm (K := Mine.hd.heap_39 w.params) C.F C.N C.X ?e ?_
  (case e => k_is)
  exact fun x h' F' N' l => k x h' (C.to F' N') l
local macro_rules | `(tactic| walk_at "m.meth") => `(tactic| ((with_reducible refine m_from_bytes (by walk_at "m.C") ?_); intro _ _ _ _))
local macro_rules | `(tactic| walk_at "m.cw") => `(tactic| ((with_reducible refine' KFB.callWith_bound ?N ?M ?_ ?h1 ?h2); (case N => exact Cx.N (by walk_at "m.C")); (case M => walk_at "m.mem"); (case h1 => exact rfl); (case h2 => exact rfl)))
theorem c_pull_uint8 {n : Nat} (C : Cx w f m news h) (B : BufIn w.params news x q b n) (hr : n + 1 ≤ b.size) (hz2 : b.size ≤ 20) (hd : f.dp + 4 < 1000)
    (k : ∀ h' tk' t news', Cx w f m news' h' → Ch news [q.dx] news' [q.dx] → Q (.int ((KBw.bInts b).getD n 0) t) ⟨h', g, d, tk', o⟩) :
    wpAny (MM w) (AR f) (call (.ref 120) [.ref x]) Q E ⟨h, g, d, tk, o⟩ := by
  have Hi := B.hi
  have Hd := B.hd
  refine' enter (binds := [("self", .ref x)]) C ?k6 ?k7 ?kd ?k9 ?kB ?_ ?c2 ?c3 ?c4 ?c5
  (case k6 => k_is); (case k7 => k_is); (case kd => omega); (case k9 => exact rfl); (case kB => exact rfl); (case c2 => exact rfl); (case c3 => exact rfl); (case c4 => exact rfl); (case c5 => decide)
  intro h₀' L' h' C'
  clear C
  repeat walk_at "m.s"
  rename_i X h2 C2 l2
  refine c_pull_bytes (r := 1) (by walk_at "m.C") (B.mono fun _ h => .tail _ h) hr hz2 (by walk_at "m.dp") ?_
  intro h3 tk3 q3 bb t3 news3 C3 B3 hbb ch3 e3 e4
  have HX : (X, KFB.bound) ∈ news3 := ch3.keep (.head _) (by rw [List.mem_singleton]; exact Nat.ne_of_gt (l2 _ Hd))
  have hlen : (KBw.bInts b).length = b.size := KBw.ints_length b
  have hb1 : KBw.bInts bb = [(KBw.bInts b).getD n 0] := by
    rw [hbb, List.drop_eq_getElem_cons (by omega), List.getD_eq_getElem?_getD, List.getElem?_eq_getElem (by omega)]; rfl
  repeat walk_at "m.s"
  refine ⟨KFB.at_of C3.N HX, ?_⟩
  refine KFB.call_big C3.N HX hb1 (by simp) ?_
  intro t4 k4
  repeat walk_at "m.s"
  walk_at "m.end"
  rw [show KFB.value [(KBw.bInts b).getD n 0] = (KBw.bInts b).getD n 0 by unfold KFB.value; simp]
  refine fun Cc => k _ _ _ news3 Cc ?_
  exact ((Ch.none (fun p hp => List.mem_cons_of_mem _ hp)).weak (fun _ h => nomatch h) (fun b hb => .inr hb)).step ch3 (fun _ h => h)
end

local macro_rules | `(tactic| walk_at "m.meth") => `(tactic| ((with_reducible refine m_from_bytes (by walk_at "m.C") ?_); intro _ _ _ _))
local macro_rules | `(tactic| walk_at "m.cw") => `(tactic| ((with_reducible refine' KFB.callWith_bound ?N ?M ?_ ?h1 ?h2); (case N => exact Cx.N (by walk_at "m.C")); (case M => walk_at "m.mem"); (case h1 => exact rfl); (case h2 => exact rfl)))

-- W7
section
variable {w : World} {f : Fm} {m : PySem.Str → Option Value} {news : List (Addr × Obj)} {h : Heap} {E : Value → Shared → Prop}
  {g : Array GenState} {d : Drawn} {tk : Nat} {o : OsState} {Q : Value → Shared → Prop}
variable {x : Addr} {q : BK} {b c : Array UInt8} {t u : Tok} {p v : Int} {ks : List Int} {A : Around}
theorem c_pull_uint_var {rest : List Int} (C : Cx w f m news h) (B : BufIn w.params news x q b 0) (hb : KBw.bInts b = encI v ++ rest) (hv : Rng v) (hz2 : b.size ≤ 20) (hd : f.dp + 4 < 1000)
    (k : ∀ h' tk' t q' news', Cx w f m news' h' → BufIn w.params news' x q' b (encN v) → Ch news [q.dx] news' [q.dx] → q'.dx = q.dx → q'.ba = q.ba → Q (.int v t) ⟨h', g, d, tk', o⟩) :
    wpAny (MM w) (AR f) (call (.ref 148) [.ref x]) Q E ⟨h, g, d, tk, o⟩ := by
  have Hi := B.hi
  have Hd := B.hd
  have Ha := B.ha
  have z2 : b.size ≤ 100 := by omega
  have hlen : encN v + rest.length = b.size := by rw [← KBw.ints_length b, hb, List.length_append, encI_length]
  have hN0 : 1 ≤ encN v := by rcases encN_cases v hv with ⟨_, e1, _⟩ | ⟨_, _, e1, _⟩ | ⟨_, _, e1, _⟩ | ⟨_, e1, _⟩ <;> omega
  obtain ⟨y, r, he, y1, y2, y3, y4⟩ := encI_head v hv
  have hve := value_enc v hv
  obtain ⟨hv0, hv1⟩ := hv
  refine' enter (binds := [("self", .ref x)]) C ?k6 ?k7 ?kd ?k9 ?kB ?_ ?c2 ?c3 ?c4 ?c5
  (case k6 => k_is); (case k7 => k_is); (case kd => omega); (case k9 => exact rfl); (case kB => exact rfl); (case c2 => exact rfl); (case c3 => exact rfl); (case c4 => exact rfl); (case c5 => decide)
  intro h₀' L' h' C'
  clear C
  repeat walk_at "m.s"
  refine b_item (by walk_at "m.C") Ha z2 (by decide) (by omega) ?_ rfl
  intro z hz
  have hz' : (KBw.bInts b)[0]? = some (z.toNat : Int) := KBw.ints_get hz
  rw [hb, he] at hz'
  have hzy : (z.toNat : Int) = y := by simpa using hz'.symm
  have hyb : 0 ≤ y ∧ y < 256 := by rw [← hzy]; have := z.toNat_lt; omega
  rw [hzy]
  repeat walk_at "m.s"
  rcases encN_cases v ⟨hv0, hv1⟩ with ⟨a1, e1, e2⟩ | ⟨a1, a2, e1, e2⟩ | ⟨a1, a2, e1, e2⟩ | ⟨a1, e1, e2⟩
  · have hS : y.fdiv (2 ^ (6 : Int).toNat) = 0 := by rw [Int.fdiv_eq_ediv_of_nonneg _ (by decide)]; show y / 64 = 0; omega
    rw [hS]
    repeat walk_at "m.s"
    rename_i X h2 C2 l2
    refine c_pull_bytes (r := 1) (n := 0) (by walk_at "m.C") (B.mono fun _ h => .tail _ h) (by omega) hz2 (by walk_at "m.dp") ?_
    intro h3 tk3 q3 bb t3 news3 C3 B3 hbb ch3 e3 e4
    have HX : (X, KFB.bound) ∈ news3 := ch3.keep (.head _) (by rw [List.mem_singleton]; exact Nat.ne_of_gt (l2 _ Hd))
    have hb1 : KBw.bInts bb = encI v := by rw [hbb, hb, List.drop_zero]; exact List.take_left' (by rw [encI_length, e1])
    repeat walk_at "m.s"
    refine ⟨KFB.at_of C3.N HX, ?_⟩
    refine KFB.call_big C3.N HX hb1 (by rw [encI_length, e1]; decide) ?_
    intro t4 k4
    rw [hve, e2]
    repeat walk_at "m.s"
    refine i_and ?_
    rw [show (1 : Int) * 2 ^ ((8 : Int) * (1 * 2 ^ (0 : Int).toNat) - 2).toNat - 1 = 2 ^ 6 - 1 from by decide, kbt_mask]
    rw [show v % 2 ^ 6 = v by omega]
    repeat walk_at "m.s"
    walk_at "m.end"
    refine fun Cc => k _ _ _ q3 news3 Cc (by rw [e1]; exact B3) ?_ e3 e4
    exact ((Ch.none (fun p hp => List.mem_cons_of_mem _ hp)).weak (fun _ h => nomatch h) (fun b hb => .inr hb)).step ch3 (fun _ h => h)
  · have hS : y.fdiv (2 ^ (6 : Int).toNat) = 1 := by rw [Int.fdiv_eq_ediv_of_nonneg _ (by decide)]; show y / 64 = 1; omega
    rw [hS]
    repeat walk_at "m.s"
    rename_i X h2 C2 l2
    refine c_pull_bytes (r := 2) (n := 0) (by walk_at "m.C") (B.mono fun _ h => .tail _ h) (by omega) hz2 (by walk_at "m.dp") ?_
    intro h3 tk3 q3 bb t3 news3 C3 B3 hbb ch3 e3 e4
    have HX : (X, KFB.bound) ∈ news3 := ch3.keep (.head _) (by rw [List.mem_singleton]; exact Nat.ne_of_gt (l2 _ Hd))
    have hb1 : KBw.bInts bb = encI v := by rw [hbb, hb, List.drop_zero]; exact List.take_left' (by rw [encI_length, e1])
    repeat walk_at "m.s"
    refine ⟨KFB.at_of C3.N HX, ?_⟩
    refine KFB.call_big C3.N HX hb1 (by rw [encI_length, e1]; decide) ?_
    intro t4 k4
    rw [hve, e2]
    repeat walk_at "m.s"
    refine i_and ?_
    rw [show (1 : Int) * 2 ^ ((8 : Int) * (1 * 2 ^ (1 : Int).toNat) - 2).toNat - 1 = 2 ^ 14 - 1 from by decide, kbt_mask]
    rw [show (v + 16384) % 2 ^ 14 = v by omega]
    repeat walk_at "m.s"
    walk_at "m.end"
    refine fun Cc => k _ _ _ q3 news3 Cc (by rw [e1]; exact B3) ?_ e3 e4
    exact ((Ch.none (fun p hp => List.mem_cons_of_mem _ hp)).weak (fun _ h => nomatch h) (fun b hb => .inr hb)).step ch3 (fun _ h => h)
  · have hS : y.fdiv (2 ^ (6 : Int).toNat) = 2 := by rw [Int.fdiv_eq_ediv_of_nonneg _ (by decide)]; show y / 64 = 2; omega
    rw [hS]
    repeat walk_at "m.s"
    rename_i X h2 C2 l2
    refine c_pull_bytes (r := 4) (n := 0) (by walk_at "m.C") (B.mono fun _ h => .tail _ h) (by omega) hz2 (by walk_at "m.dp") ?_
    intro h3 tk3 q3 bb t3 news3 C3 B3 hbb ch3 e3 e4
    have HX : (X, KFB.bound) ∈ news3 := ch3.keep (.head _) (by rw [List.mem_singleton]; exact Nat.ne_of_gt (l2 _ Hd))
    have hb1 : KBw.bInts bb = encI v := by rw [hbb, hb, List.drop_zero]; exact List.take_left' (by rw [encI_length, e1])
    repeat walk_at "m.s"
    refine ⟨KFB.at_of C3.N HX, ?_⟩
    refine KFB.call_big C3.N HX hb1 (by rw [encI_length, e1]; decide) ?_
    intro t4 k4
    rw [hve, e2]
    repeat walk_at "m.s"
    refine i_and ?_
    rw [show (1 : Int) * 2 ^ ((8 : Int) * (1 * 2 ^ (2 : Int).toNat) - 2).toNat - 1 = 2 ^ 30 - 1 from by decide, kbt_mask]
    rw [show (v + 2147483648) % 2 ^ 30 = v by omega]
    repeat walk_at "m.s"
    walk_at "m.end"
    refine fun Cc => k _ _ _ q3 news3 Cc (by rw [e1]; exact B3) ?_ e3 e4
    exact ((Ch.none (fun p hp => List.mem_cons_of_mem _ hp)).weak (fun _ h => nomatch h) (fun b hb => .inr hb)).step ch3 (fun _ h => h)
  · have hS : y.fdiv (2 ^ (6 : Int).toNat) = 3 := by rw [Int.fdiv_eq_ediv_of_nonneg _ (by decide)]; show y / 64 = 3; omega
    rw [hS]
    repeat walk_at "m.s"
    rename_i X h2 C2 l2
    refine c_pull_bytes (r := 8) (n := 0) (by walk_at "m.C") (B.mono fun _ h => .tail _ h) (by omega) hz2 (by walk_at "m.dp") ?_
    intro h3 tk3 q3 bb t3 news3 C3 B3 hbb ch3 e3 e4
    have HX : (X, KFB.bound) ∈ news3 := ch3.keep (.head _) (by rw [List.mem_singleton]; exact Nat.ne_of_gt (l2 _ Hd))
    have hb1 : KBw.bInts bb = encI v := by rw [hbb, hb, List.drop_zero]; exact List.take_left' (by rw [encI_length, e1])
    repeat walk_at "m.s"
    refine ⟨KFB.at_of C3.N HX, ?_⟩
    refine KFB.call_big C3.N HX hb1 (by rw [encI_length, e1]; decide) ?_
    intro t4 k4
    rw [hve, e2]
    repeat walk_at "m.s"
    refine i_and ?_
    rw [show (1 : Int) * 2 ^ ((8 : Int) * (1 * 2 ^ (3 : Int).toNat) - 2).toNat - 1 = 2 ^ 62 - 1 from by decide, kbt_mask]
    rw [show (v + 13835058055282163712) % 2 ^ 62 = v by omega]
    repeat walk_at "m.s"
    walk_at "m.end"
    refine fun Cc => k _ _ _ q3 news3 Cc (by rw [e1]; exact B3) ?_ e3 e4
    exact ((Ch.none (fun p hp => List.mem_cons_of_mem _ hp)).weak (fun _ h => nomatch h) (fun b hb => .inr hb)).step ch3 (fun _ h => h)
theorem c_size (C : Cx w f m news h) (hv : Rng v) (hd : f.dp < 1000) (k : ∀ h' tk' t (n : Int), n = (encN v : Nat) → Cx w f m news h' → Q (.int n t) ⟨h', g, d, tk', o⟩) : wpAny (MM w) (AR f) (call (.ref 211) [.int v t]) Q E ⟨h, g, d, tk, o⟩ := by
  obtain ⟨hv0, hv1⟩ := hv
  have hc := encN_cases v ⟨hv0, hv1⟩
  refine' enter (binds := [("value", .int v t)]) C ?k6 ?k7 ?kd ?k9 ?kB ?_ ?c2 ?c3 ?c4 ?c5
  (case k6 => k_is); (case k7 => k_is); (case kd => omega); (case k9 => exact rfl); (case kB => exact rfl); (case c2 => exact rfl); (case c3 => exact rfl); (case c4 => exact rfl); (case c5 => decide)
  intro h₀' L' h' C'
  clear C
  repeat walk_at "m.s"
  refine ifB_dec (fun h1 => ?_) (fun h1 => ?_)
  · repeat walk_at "m.s"
    walk_at "m.end"
    have e : encN v = 1 := by omega
    exact fun Cc => k _ _ _ 1 (by rw [e]; rfl) Cc
  · repeat walk_at "m.s"
    refine ifB_dec (fun h2 => ?_) (fun h2 => ?_)
    · repeat walk_at "m.s"
      walk_at "m.end"
      have e : encN v = 2 := by omega
      exact fun Cc => k _ _ _ 2 (by rw [e]; rfl) Cc
    · repeat walk_at "m.s"
      refine ifB_dec (fun h3 => ?_) (fun h3 => ?_)
      · repeat walk_at "m.s"
        walk_at "m.end"
        have e : encN v = 4 := by omega
        exact fun Cc => k _ _ _ 4 (by rw [e]; rfl) Cc
      · repeat walk_at "m.s"
        walk_at "m.end"
        have e : encN v = 8 := by omega
        exact fun Cc => k _ _ _ 8 (by rw [e]; rfl) Cc
end

-- X1
-- COMPREHENSIONS THAT PICK
section
open LCg LCt
theorem off1_mem {D : Addr} : ∀ {l : List (Addr × Obj)}, Off1 D l → ∀ p ∈ l, p.1 ≠ D
  | [], _, _, h => nomatch h
  | _ :: _, x, p, h => by
    rcases List.mem_cons.mp h with rfl | h
    · exact x.1
    · exact off1_mem x.2 p h
section
variable {w : World} {f : Fm} {m : PySem.Str → Option Value} {news : List (Addr × Obj)} {h : Heap} {E : Value → Shared → Prop}
  {g : Array GenState} {d : Drawn} {tk : Nat} {o : OsState} {Q : Value → Shared → Prop}
variable {ct iter : Expr} {x : PySem.Str} {px px' pos : Pos} {scope : Scope} {cl : List (PySem.Str × Addr)} {vs : List Value} {p : Value → Bool} {l e : Nat}
/-- the test of a comprehension on one item -/
def PickTest (w : World) (f : Fm) (m : PySem.Str → Option Value) (news : List (Addr × Obj)) (g : Array GenState) (d : Drawn) (o : OsState) (ct : Expr) (x : PySem.Str) (scope : Scope) (cl : List (PySem.Str × Addr)) (vs : List Value) (p : Value → Bool) : Prop :=
  ∀ v I oI C oC D ys m₂ h tk, v ∈ vs → NsObj oC m₂ → m₂ x = some v → Cx w f m ((I, oI) :: (C, oC) :: (D, lst ys) :: news) h → wpAny (MM w) (AR f) (isTrue ct (compEnvC scope cl C f.env) (eval ct (compEnvC scope cl C f.env)))
    (fun ok s' => ok = p v ∧ ∃ h' tk', s' = ⟨h', g, d, tk', o⟩ ∧ Cx w f m ((I, oI) :: (C, oC) :: (D, lst ys) :: news) h') (fun _ _ => False) ⟨h, g, d, tk, o⟩
theorem pick_rest {S : List (Addr × Obj) → Prop} {Fin : List Value → List (Addr × Obj) → Prop} {h₁ : Heap} {tk₁ : Nat} (C₀ : Cx w f m news h) (hS : S news) (hxl : (relabel scope f.env).names.lookup x = some .local) (hd : (x == ("__debug__" : PySem.Str)) = false) (hkd : scope.kind = .function)
    (T : PickTest w f m news g d o ct x scope cl vs p) : ∀ k i ys, i + k = vs.length → Fin (ys ++ (vs.drop i).filter p) news →
      CompRestT PR w (AR f) f.h₀ f.L m f.env ct (.Name x px') x scope cl ⟨h₁, g, d, tk₁, o⟩ S (fun i v => vs.toArray[i]? = some v) Fin k i ys news := by
  intro k
  induction k with
  | zero =>
    intro i ys hk hf
    refine CompRestT.zero ?_
    rw [List.drop_eq_nil_of_le (by omega)] at hf
    simpa using hf
  | succ k ih =>
    intro i ys hk hf
    refine CompRestT.succ ?_
    intro v I oI C oC D m₂ h2 tk2 E' hP hN hv F N off ne
    have hvs : vs[i]? = some v := by simpa using hP
    have hf' : Fin ((if p v then ys ++ [v] else ys) ++ (vs.drop (i + 1)).filter p) news := by
      rw [drop_get hvs, List.filter_cons] at hf
      by_cases hp : p v = true
      · rw [if_pos hp] at hf ⊢; simpa using hf
      · rw [if_neg hp] at hf ⊢; exact hf
    refine wpAny_mono (T v I oI C oC D ys m₂ h2 tk2 (List.mem_of_getElem? hvs) hN hv (C₀.to F N)) (fun ok s' z => ?_) fun _ _ z => z.elim
    obtain ⟨rfl, h3, tk3, rfl, C3⟩ := z
    by_cases hp : p v = true
    · rw [if_pos hp] at hf' ⊢
      have hn : h3.Ns C m₂ := hN.ns (C3.get (.tail _ (.head _)))
      refine wpAny_Name (wpAny_loadName_local (by show (relabel scope f.env).kind = .function; simp [relabel, hkd]) (by show (relabel scope f.env).names.lookup x = some .local; exact hxl) hn hv ?_) hd
      exact CompEnd.intro C3.F C3.N news (fun _ h => h) off hS (ih (i + 1) (ys ++ [v]) (by omega) hf')
    · rw [if_neg hp] at hf' ⊢
      exact CompEnd.intro C3.F C3.N news (fun _ h => h) off hS (ih (i + 1) ys (by omega) hf')
theorem pick_list (C : Cx w f m news h) (hm : (l, listOf vs.toArray e) ∈ news) (hz : vs.length ≤ 1000) (hi : ∀ {Q' : Value → Shared → Prop}, Q' (.ref l) ⟨h, g, d, tk, o⟩ → wpAny (MM w) (AR f) (eval iter f.env) Q' E ⟨h, g, d, tk, o⟩)
    (hclos : closureFor scope f.env = pure cl) (hcell : ∀ y ∈ scope.names, y.2 ≠ .cell) (hkd : scope.kind = .function) (hnames : ∀ y ∈ scope.names, y.2 = .local → scope.names.lookup y.1 = some .local) (hx : scope.names.lookup x = some .local)
    (hd : (x == ("__debug__" : PySem.Str)) = false) (hs : ∀ x, foldedSetIterable iter f.env x = pure x)
    (T : PickTest w f m news g d o ct x scope cl vs p)
    (k : ∀ D h' tk', Cx w f m ((D, listOf (vs.filter p).toArray (vs.filter p).length) :: news) h' → (∀ q ∈ news, q.1 ≠ D) → Q (.ref D) ⟨h', g, d, tk', o⟩) :
    wpAny (MM w) (AR f) (eval (.ListComp (.Name x px') [⟨.Name x px, iter, [ct], 0⟩] scope pos) f.env) Q E ⟨h, g, d, tk, o⟩ := by
  refine ListComp_T C.F hclos hcell hkd hnames hx (hi ?_) hs
  refine CompSrcT.ledger rfl C.F C.N hm (by rw [List.size_toArray]; exact size_line hz) fun g' => ?_
  rw [List.size_toArray]
  refine pick_rest C (.inr ⟨_, hm, rfl, _, rfl⟩) (lookup_relabel_local hx) hd hkd T vs.length 0 [] (by omega) ?_
  intro D h' tk' F N off
  exact k D h' tk' (C.to F N) (off1_mem off)
theorem pick_tuple (C : Cx w f m news h) (hz : vs.length ≤ 1000) (hi : ∀ {Q' : Value → Shared → Prop}, (∀ t h' tk', Cx w f m ((t, tupOf vs) :: news) h' → (∀ q ∈ news, q.1 < t) → Q' (.ref t) ⟨h', g, d, tk', o⟩) → wpAny (MM w) (AR f) (eval iter f.env) Q' E ⟨h, g, d, tk, o⟩)
    (hclos : closureFor scope f.env = pure cl) (hcell : ∀ y ∈ scope.names, y.2 ≠ .cell) (hkd : scope.kind = .function) (hnames : ∀ y ∈ scope.names, y.2 = .local → scope.names.lookup y.1 = some .local) (hx : scope.names.lookup x = some .local)
    (hd : (x == ("__debug__" : PySem.Str)) = false) (hs : ∀ x, foldedSetIterable iter f.env x = pure x)
    (T : ∀ t, PickTest w f m ((t, tupOf vs) :: news) g d o ct x scope cl vs p)
    (k : ∀ D h' tk', Cx w f m ((D, listOf (vs.filter p).toArray (vs.filter p).length) :: news) h' → (∀ q ∈ news, q.1 ≠ D) → Q (.ref D) ⟨h', g, d, tk', o⟩) :
    wpAny (MM w) (AR f) (eval (.ListComp (.Name x px') [⟨.Name x px, iter, [ct], 0⟩] scope pos) f.env) Q E ⟨h, g, d, tk, o⟩ := by
  rw [eval_ListComp]
  refine wpAny_comprehension_free (use := none) rfl hs hclos hkd hnames (hi fun t h1 tk1 C1 l1 => ?_)
  have ht : h1.IsTuple t vs.toArray := ⟨_, C1.get (.head _), rfl, 0, rfl⟩
  have hlt : t < h1.objs.size := Heap.lt_size (C1.get (.head _))
  refine wpAny_pyIter_tuple ht ?_
  have up : ∀ b ob, h1.get? b = some ob → (h1.push { cls := .type "tuple_iterator", data := .fields #[.ref t, .int 0 0] }).get? b = some ob := fun b ob e => Heap.get?_push_of_some _ e
  refine block_T (Fin := FinE f.h₀ f.L m ⟨h1.push { cls := .type "tuple_iterator", data := .fields #[.ref t, .int 0 0] }, g, d, tk1, o⟩ Q) (S := fun nw => (t, tupOf vs) ∈ nw) (Walks.tuple rfl h1.objs.size t (Nat.ne_of_lt hlt) vs.toArray) (by rw [List.size_toArray]; exact size_line hz) (fun i h st => by obtain ⟨ob, e, _⟩ := st.1; exact ⟨ob, e⟩)
    (fun i h h' ob nw st e e' _ N S => ⟨by obtain ⟨o', q, r⟩ := st.1; rw [e] at q; cases q; exact ⟨ob, e', r⟩, ⟨_, (N _ S).1, rfl, 0, rfl⟩⟩) hcell hkd hx ⟨⟨_, Heap.get?_push_size _ rfl, rfl, rfl⟩, ht.at fun ob e => up _ _ e⟩ (fun b hb => ?_)
    (C1.F.keeps up) (C1.N.grown up) (Nat.ne_of_lt C1.F.ns.lt) (next_is_new C1.F) (fun q hq => Nat.ne_of_lt (Heap.lt_size (C1.N q hq).1)) (.head _)
    (by rw [List.size_toArray]; exact pick_rest C1 (.head _) (lookup_relabel_local hx) hd hkd (T t) vs.length 0 [] (by omega) (fun D h' tk' F N off => k D h' tk' ((C1.to F N).sub fun q hq => by
      rcases List.mem_cons.mp hq with rfl | hq
      · exact .head _
      · exact .tail _ (.tail _ hq)) fun q hq => off1_mem off q (.tail _ hq))) ?_
  · show b < (h1.push _).objs.size
    rw [Heap.size_push]
    rcases List.mem_cons.mp hb with rfl | hb
    · exact Nat.lt_succ_self _
    · rw [List.mem_singleton.mp hb]; exact Nat.lt_succ_of_lt hlt
  · intro D C' h tk m' ys news' F' N' o1 hn hC₀ hD₀ hCL hDL hCD offC fin
    refine ⟨m', hn, fun h'' hs'' => fin D h'' tk (F'.change hs'' hCL hC₀) (fun q hq => ?_) o1⟩
    refine ⟨hs''.extBut _ _ ?_ (N' q hq).1, (N' q hq).2⟩
    rcases List.mem_cons.mp hq with rfl | hq
    · exact Ne.symm hCD
    · exact offC q hq
end
end

-- X2
-- FRAMES WITH CELLS; NAMES WITHIN A COMPREHENSION
section
open LCg
variable {w : World} {f : Fm} {m : PySem.Str → Option Value} {news : List (Addr × Obj)} {h : Heap} {E : Value → Shared → Prop}
  {g : Array GenState} {d : Drawn} {tk : Nat} {o : OsState} {Q : Value → Shared → Prop}
variable {A : Around} {M : Model}
theorem enter_cells {R : Result → Shared → Prop} {name qual : PySem.Str} {params : Arguments} {body : List Stmt} {scope : Scope} {dV kV doc pm cdv ct oc : Value} {an od : Option Addr} {osl : Array (Option Value)}
    {fa : Addr} {args : Args} {un : Nat} {binds : List (PySem.Str × Value)} (C : Cx w f m news h)
    (ho : (Mine.hd.heap_39 w.params).lookup fa = some ⟨oc, od, .func (fnOf name qual params body scope dV kV doc pm an cdv ct), osl⟩) (hcd : codeIn (Mine.hd.heap_39 w.params) cdv qual = true) {dp : Nat} (hroom : dp < 1000) (hun : un ≤ 5 * dp + 52)
    (hbind : bindArgs (fnOf name qual params body scope dV kV doc pm an cdv ct) args = pure binds)
    (hkind : (binds.all fun y => scope.names.lookup y.1 == some .local || scope.names.lookup y.1 == some .cell) = true) (hnd : ((cellsFrom 0 scope.names []).map (·.1)).Nodup)
    (hb : ∀ h₀' L' h' tk' cells, Cx w ⟨envX qual scope L' fa cdv (cellsFrom (L' + 1) scope.names []), f.env :: f.outer, h₀', L', dp + 1, un + 3, f.gd⟩ (bindL (envX qual scope L' fa cdv (cellsFrom (L' + 1) scope.names [])).kindOf binds fun _ => none) (cells ++ news) h' →
      CellsAre (bindC (envX qual scope L' fa cdv (cellsFrom (L' + 1) scope.names [])).kindOf binds fun _ => none) (cellsFrom (L' + 1) scope.names []) cells →
      wpAny (MM w) (AR ⟨envX qual scope L' fa cdv (cellsFrom (L' + 1) scope.names []), f.env :: f.outer, h₀', L', dp + 1, un + 3, f.gd⟩) (execs body (envX qual scope L' fa cdv (cellsFrom (L' + 1) scope.names [])))
        (Lv w f m ⟨envX qual scope L' fa cdv (cellsFrom (L' + 1) scope.names []), f.env :: f.outer, h₀', L', dp + 1, un + 3, f.gd⟩ g d o fun v s' => R (.ok (.ret v)) s') (fun _ _ => False) ⟨h', g, d, tk', o⟩)
    (hco : scope.isCoroutine = false) (hgen : scope.isGenerator = false) (hk : scope.kind = .function) :
    codeAny (MM w) { handled := none, depth := dp, frames := some (f.env :: f.outer), guards := f.gd, units := un } (.call (.ref fa) args) R ⟨h, g, d, tk, o⟩ := by
  obtain ⟨⟨A₀, base, B⟩, F, X, N, ⟨p, lo, me, mg, mb, T⟩, hf, hke, hu⟩ := C
  refine code_defC B F X N T rfl hf hke ho hcd hroom (BindsTo.of_eq hbind) hkind hnd (fun g' L' h₁ tk' cells FG F' N' Y B' X' T' l => ?_) hco hgen hk
  refine wpAny_mono (hb g' L' h₁ tk' cells ⟨⟨_, _, B'⟩, F', X', N', ⟨p, lo, me, mg, mb, T'⟩, rfl, hk, by show un + 3 ≤ 5 * (dp + 1) + 50; omega⟩ Y) (fun fl s' hl => ?_) fun _ _ x => x.elim
  obtain ⟨h', tk', m', news', rfl, C', k⟩ := hl
  exact leaveK_ C'.F C'.N fun F₂ N₂ => k ⟨⟨_, _, B⟩, F₂, X, N₂, ⟨p, lo, me, mg, mb, T⟩, hf, hke, hu⟩
variable {scope : Scope} {cl : List (PySem.Str × Addr)} {K c : Addr} {env : Env} {x : PySem.Str} {pos : Pos} {v : Value} {oC ob : Obj} {m₂ : PySem.Str → Option Value}
theorem n_loc (C : Cx w f m news h) (hm : (K, oC) ∈ news) (hN : NsObj oC m₂) (hv : m₂ x = some v) (k : Q v ⟨h, g, d, tk, o⟩) (hkd : (relabel scope env).kind = .function) (hx : (relabel scope env).names.lookup x = some .local) (hd : (x == ("__debug__" : PySem.Str)) = false) :
    wpAny M A (eval (.Name x pos) (compEnvC scope cl K env)) Q E ⟨h, g, d, tk, o⟩ := wpAny_Name (wpAny_loadName_local hkd hx (hN.ns (C.get hm)) hv k) hd
theorem n_cell (C : Cx w f m news h) (hc : cl.lookup x = some c) (hm : (c, ob) ∈ news) (hv : ob.data = .cell (some v)) (k : Q v ⟨h, g, d, tk, o⟩) (hkd : (relabel scope env).kind = .function) (hx : (relabel scope env).names.lookup x = some .cell) (hd : (x == ("__debug__" : PySem.Str)) = false) :
    wpAny M A (eval (.Name x pos) (compEnvC scope cl K env)) Q E ⟨h, g, d, tk, o⟩ := wpAny_Name (wpAny_loadName_cell hkd hx hc ⟨ob, C.get hm, hv⟩ k) hd
theorem n_glob {L a : Addr} {cd : Value} {nm : PySem.Str} {sc : Scope} {outer : List Env} {h₀ : Heap} {dp un : Nat} {gd : Option (List Code)} {cl0 : List (PySem.Str × Addr)} (C : Cx w ⟨envX nm sc L a cd cl0, outer, h₀, L, dp, un, gd⟩ m news h) (e : nsIn (Mine.hd.heap_39 w.params) mainGlobals x = some (some v)) (k : Q v ⟨h, g, d, tk, o⟩)
    (hkd : scope.kind = .function) (hx : (relabel scope (envX nm sc L a cd cl0)).names.lookup x = some .globalImplicit) (hd : (x == ("__debug__" : PySem.Str)) = false) :
    wpAny M A (eval (.Name x pos) (compEnvC scope cl K (envX nm sc L a cd cl0))) Q E ⟨h, g, d, tk, o⟩ := by
  obtain ⟨p, lo, me, mg, mb, T⟩ := C.T
  have T' := topRead_of T
  exact Calls.Name_function_global (by show (relabel scope _).kind = .function; simp [relabel, hkd]) hx (Calls.loadGlobal_global (env := compEnvC scope cl K (envX nm sc L a cd cl0)) (T'.g.keeps C.F.keep) (mg_of C.X T'.g e) k) hd
theorem x_st {L a : Addr} {cd : Value} {nm : PySem.Str} {sc : Scope} {outer : List Env} {h₀ : Heap} {dp un : Nat} {gd : Option (List Code)} {cl0 : List (PySem.Str × Addr)} {QU : Unit → Shared → Prop} (C : Cx w ⟨envX nm sc L a cd cl0, outer, h₀, L, dp, un, gd⟩ m news h)
    (k : ∀ h', Cx w ⟨envX nm sc L a cd cl0, outer, h₀, L, dp, un, gd⟩ (fun y => if y = x then some v else m y) news h' → QU () ⟨h', g, d, tk + 1, o⟩) (hl : (envX nm sc L a cd cl0).kindOf x = some .local) :
    wpAny M A (storeName (envX nm sc L a cd cl0) x v) QU E ⟨h, g, d, tk, o⟩ := storeX_L C.F C.N (fun h' F' N' => k h' (C.to F' N')) C.hk hl
theorem x_stc {L a : Addr} {cd : Value} {nm : PySem.Str} {sc : Scope} {outer : List Env} {h₀ : Heap} {dp un : Nat} {gd : Option (List Code)} {cl0 : List (PySem.Str × Addr)} {QU : Unit → Shared → Prop} {v₀ : Option Value} (C : Cx w ⟨envX nm sc L a cd cl0, outer, h₀, L, dp, un, gd⟩ m news h)
    (hc : cl0.lookup x = some c) (hm : (c, ob) ∈ news) (hv : ob.data = .cell v₀)
    (k : ∀ h' ob', Cx w ⟨envX nm sc L a cd cl0, outer, h₀, L, dp, un, gd⟩ m (up c ob' news) h' → ob'.data = .cell (some v) → Ch news [c] (up c ob' news) [c] → QU () ⟨h', g, d, tk, o⟩) (hl : (envX nm sc L a cd cl0).kindOf x = some .cell) :
    wpAny M A (storeName (envX nm sc L a cd cl0) x v) QU E ⟨h, g, d, tk, o⟩ :=
  storeX_C C.F (pickN C.N hm) hc (.head fun p hp => by simpa using (List.mem_filter.mp hp).2) hv (fun h' o' F' N' e => k h' o' (C.to F' N') e (Ch.up C hm (by unfold frz; rw [hv]))) C.hk hl
-- a list's place of an item
theorem lm_index {pl : Sem Bool} {QM : Value × List Value → Shared → Prop} {l n : Nat} {vs : List Value} (C : Cx w f m news h) (hm : (l, listOf vs.toArray n) ∈ news) (k : QM (.builtin "list.index", [.ref l]) ⟨h, g, d, tk, o⟩) : wpAny (MM w) A (getMethod (.ref l) "index" pl) QM E ⟨h, g, d, tk, o⟩ :=
  kl_method C.N hm PySem.F.slot_list_index PySem.F.type_list_index k
theorem l_index {l n : Nat} {vs : List Value} {ns : List Int} {i : Int} {t : Tok} (C : Cx w f m news h) (hm : (l, listOf vs.toArray n) ∈ news) (hi : IntsAre vs ns) (hlay : PyData.layable0 (.list (ns.map .int)) = true) (hk : i ∈ ns) (k : Q (.int (ns.idxOf i : Nat) tk) ⟨h, g, d, tk + 1, o⟩) :
    wpAny (MM w) A (call (.builtin "list.index") [.ref l, .int i t]) Q E ⟨h, g, d, tk, o⟩ := index_list_ints (C.isList hm) hi hlay hk k
end
local macro_rules | `(tactic| walk_at "m.meth") => `(tactic| with_reducible refine lm_index (by walk_at "m.C") (by walk_at "m.mem") ?_)
local macro_rules | `(tactic| walk_at "m.s") => `(tactic| ((with_reducible refine' x_st ?C ?_ ?hl); (case hl => exact rfl); (case C => walk_at "m.C"); intro _ _))
local macro_rules | `(tactic| walk_at "m.isC") => `(tactic| first | assumption | rfl)
local macro_rules | `(tactic| walk_at "m.name") => `(tactic| first
  | ((with_reducible refine' n_loc ?C ?m ?N ?v ?_ ?k ?x ?d); (case C => walk_at "m.C"); (case m => exact List.mem_cons_of_mem _ List.mem_cons_self); (case N => assumption); (case v => assumption); (case k => exact rfl); (case x => exact rfl); (case d => decide))
  | ((with_reducible refine' n_cell ?C ?c ?m ?v ?_ ?k ?x ?d); (case C => walk_at "m.C"); (case c => exact rfl); (case m => walk_at "m.mem"); (case v => assumption); (case k => exact rfl); (case x => exact rfl); (case d => decide))
  | ((with_reducible refine' n_glob ?C ?e ?_ ?k ?x ?d); (case C => walk_at "m.C"); (case e => k_is); (case k => exact rfl); (case x => exact rfl); (case d => decide))
  | ((with_reducible refine' x_ldc ?C ?c ?m ?v ?_ ?l ?d); (case C => walk_at "m.C"); (case c => exact rfl); (case m => walk_at "m.mem"); (case v => assumption); (case l => exact rfl); (case d => decide)))
/-- does a number fit so many octets -/
def fitP (v : Int) : Value → Bool := fun y => match y with | .int i _ => decide (v < 2 ^ (8 * i - 2).toNat) | _ => false
theorem fit_pick (v : Int) (h : Rng v) (t1 t2 t3 t4 : Tok) : ∃ u r, List.filter (fitP v) [.int 1 t1, .int 2 t2, .int 4 t3, .int 8 t4] = .int (encN v : Nat) u :: r := by
  obtain ⟨h0, h1⟩ := h
  have f1 : fitP v (.int 1 t1) = decide (v < 64) := rfl
  have f2 : fitP v (.int 2 t2) = decide (v < 16384) := rfl
  have f4 : fitP v (.int 4 t3) = decide (v < 1073741824) := rfl
  have f8 : fitP v (.int 8 t4) = decide (v < 4611686018427387904) := rfl
  rw [List.filter_cons, List.filter_cons, List.filter_cons, List.filter_cons, f1, f2, f4, f8, List.filter_nil]
  rcases encN_cases v ⟨h0, h1⟩ with ⟨a, e, _⟩ | ⟨a, b, e, _⟩ | ⟨a, b, e, _⟩ | ⟨a, e, _⟩ <;> rw [e]
  · rw [if_pos (decide_eq_true a)]; exact ⟨_, _, rfl⟩
  · rw [if_neg (by simp; omega), if_pos (decide_eq_true b)]; exact ⟨_, _, rfl⟩
  · rw [if_neg (by simp; omega), if_neg (by simp; omega), if_pos (decide_eq_true b)]; exact ⟨_, _, rfl⟩
  · rw [if_neg (by simp; omega), if_neg (by simp; omega), if_neg (by simp; omega), if_pos (decide_eq_true h1)]; exact ⟨_, _, rfl⟩
section
variable {w : World} {f : Fm} {m : PySem.Str → Option Value} {news : List (Addr × Obj)} {h : Heap} {E : Value → Shared → Prop}
  {g : Array GenState} {d : Drawn} {tk : Nat} {o : OsState} {Q : Value → Shared → Prop}
theorem c_law_octets {v : Int} {t : Tok} (C : Cx w f m news h) (hv : Rng v) (hd : f.dp + 2 < 1000)
    (k : ∀ h' tk' bb t, Cx w f m news h' → Enc bb v → Q (.bytes bb t) ⟨h', g, d, tk', o⟩) : wpAny (MM w) (AR f) (call (.ref 721) [.int v t]) Q E ⟨h, g, d, tk, o⟩ := by
  have hu := C.u
  refine wpAny_call ?_
  refine' enter_cells (binds := [("value", .int v t)]) C ?k6 ?k7 ?kd ?ku ?k9 ?kB ?kD ?_ ?c2 ?c3 ?c4
  (case k6 => k_is); (case k7 => k_is); (case kd => omega); (case ku => omega); (case k9 => exact rfl); (case kB => exact rfl); (case kD => decide +kernel); (case c2 => exact rfl); (case c3 => exact rfl); (case c4 => exact rfl)
  intro h₀' L' h' tk' cells C' Y
  obtain ⟨oc, rfl, hoc⟩ := CellsAre.one Y
  replace hoc : oc.data = .cell (some (.int v t)) := hoc
  replace C' := (id C' : Cx w _ _ ((L' + 1, oc) :: news) h')
  obtain ⟨hv0, hv1⟩ := hv
  have hN := encN_cases v ⟨hv0, hv1⟩
  repeat walk_at "m.s"
  refine' pick_tuple (f := C'.fr) (vs := [.int 1 _, .int 2 _, .int 4 _, .int 8 _]) (p := fitP v) ?C (Nat.le_of_ble_eq_true rfl) ?hi ?h1 ?h2 ?h3 ?h4 ?h5 ?h6 ?h7 ?T ?_
  case C => walk_at "m.C"
  case hi =>
    intro Q' hQ
    repeat walk_at "m.s"
    exact hQ _ _ _ (by walk_at "m.C") (by assumption)
  case h1 => exact rfl
  case h2 => decide
  case h3 => exact rfl
  case h4 => decide
  case h5 => exact rfl
  case h6 => decide
  case h7 => exact fun _ => rfl
  case T =>
    intro tt y I oI K oC D ys m₂ h1 tk1 hy hN1 hv1' C1
    simp only [List.mem_cons, List.not_mem_nil, or_false] at hy
    rcases hy with rfl | rfl | rfl | rfl
    all_goals (
      repeat walk_at "m.s"
      exact ⟨rfl, _, _, rfl, by walk_at "m.C"⟩)
  intro D h3 tk3 C3 l3
  obtain ⟨u1, r1, hf⟩ := fit_pick v ⟨hv0, hv1⟩ tk' (tk' + 1) (tk' + 1 + 1) (tk' + 1 + 1 + 1)
  have hfl := List.length_filter_le (fitP v) [.int 1 tk', .int 2 (tk' + 1), .int 4 (tk' + 1 + 1), .int 8 (tk' + 1 + 1 + 1)]
  rw [hf] at C3 hfl
  have hfl : (Value.int (encN v : Nat) u1 :: r1).length ≤ 4 := hfl
  repeat walk_at "m.s"
  refine l_get (vs := .int (encN v : Nat) u1 :: r1) (i := 0) (x := .int (encN v : Nat) u1) (by walk_at "m.C") List.mem_cons_self (by decide) (by omega) rfl ?_ rfl
  clear hf
  rcases hN with ⟨a1, e1, e2⟩ | ⟨a1, a2, e1, e2⟩ | ⟨a1, a2, e1, e2⟩ | ⟨a1, e1, e2⟩
  · rw [e1]
    repeat walk_at "m.s"
    refine l_index (ns := [1, 2, 4, 8]) (by walk_at "m.C") (by walk_at "m.mem") (by repeat constructor) (by decide) (by decide) ?_
    repeat walk_at "m.s"
    rw [show ((List.idxOf ((1 : Nat) : Int) [1, 2, 4, 8] : Nat) : Int) = 0 from by decide]
    refine l_get (vs := [.int 0 _, .int 1 _, .int 2 _, .int 3 _]) (i := 0) (x := .int 0 _) (by walk_at "m.C") (by walk_at "m.mem") (by decide) (Nat.le_of_ble_eq_true rfl) rfl ?_ rfl
    repeat walk_at "m.s"
    rw [show v + 0 * 2 ^ ((8 : Int) * ((1 : Nat) : Int) - 2).toNat = encV v from by rw [e2, show ((8 : Int) * ((1 : Nat) : Int) - 2).toNat = 6 from by decide]; omega]
    refine KTBy.to_big (k := 1) (B := 256) (by decide) (by decide) (by omega) (by omega) ?_
    intro bb t2 k2 hb1 hl
    have hbi : KBw.bInts bb = encI v := by rw [hb1]; unfold encI; rw [e1]
    repeat walk_at "m.s"
    walk_at "m.end"
    exact fun Cc => k _ _ bb t2 (Cc.sub fun q hq => .tail _ (.tail _ (.tail _ (.tail _ hq)))) ⟨hbi, hv0, hv1⟩
  · rw [e1]
    repeat walk_at "m.s"
    refine l_index (ns := [1, 2, 4, 8]) (by walk_at "m.C") (by walk_at "m.mem") (by repeat constructor) (by decide) (by decide) ?_
    repeat walk_at "m.s"
    rw [show ((List.idxOf ((2 : Nat) : Int) [1, 2, 4, 8] : Nat) : Int) = 1 from by decide]
    refine l_get (vs := [.int 0 _, .int 1 _, .int 2 _, .int 3 _]) (i := 1) (x := .int 1 _) (by walk_at "m.C") (by walk_at "m.mem") (by decide) (Nat.le_of_ble_eq_true rfl) rfl ?_ rfl
    repeat walk_at "m.s"
    rw [show v + 1 * 2 ^ ((8 : Int) * ((2 : Nat) : Int) - 2).toNat = encV v from by rw [e2, show ((8 : Int) * ((2 : Nat) : Int) - 2).toNat = 14 from by decide]; omega]
    refine KTBy.to_big (k := 2) (B := 65536) (by decide) (by decide) (by omega) (by omega) ?_
    intro bb t2 k2 hb1 hl
    have hbi : KBw.bInts bb = encI v := by rw [hb1]; unfold encI; rw [e1]
    repeat walk_at "m.s"
    walk_at "m.end"
    exact fun Cc => k _ _ bb t2 (Cc.sub fun q hq => .tail _ (.tail _ (.tail _ (.tail _ hq)))) ⟨hbi, hv0, hv1⟩
  · rw [e1]
    repeat walk_at "m.s"
    refine l_index (ns := [1, 2, 4, 8]) (by walk_at "m.C") (by walk_at "m.mem") (by repeat constructor) (by decide) (by decide) ?_
    repeat walk_at "m.s"
    rw [show ((List.idxOf ((4 : Nat) : Int) [1, 2, 4, 8] : Nat) : Int) = 2 from by decide]
    refine l_get (vs := [.int 0 _, .int 1 _, .int 2 _, .int 3 _]) (i := 2) (x := .int 2 _) (by walk_at "m.C") (by walk_at "m.mem") (by decide) (Nat.le_of_ble_eq_true rfl) rfl ?_ rfl
    repeat walk_at "m.s"
    rw [show v + 2 * 2 ^ ((8 : Int) * ((4 : Nat) : Int) - 2).toNat = encV v from by rw [e2, show ((8 : Int) * ((4 : Nat) : Int) - 2).toNat = 30 from by decide]; omega]
    refine KTBy.to_big (k := 4) (B := 4294967296) (by decide) (by decide) (by omega) (by omega) ?_
    intro bb t2 k2 hb1 hl
    have hbi : KBw.bInts bb = encI v := by rw [hb1]; unfold encI; rw [e1]
    repeat walk_at "m.s"
    walk_at "m.end"
    exact fun Cc => k _ _ bb t2 (Cc.sub fun q hq => .tail _ (.tail _ (.tail _ (.tail _ hq)))) ⟨hbi, hv0, hv1⟩
  · rw [e1]
    repeat walk_at "m.s"
    refine l_index (ns := [1, 2, 4, 8]) (by walk_at "m.C") (by walk_at "m.mem") (by repeat constructor) (by decide) (by decide) ?_
    repeat walk_at "m.s"
    rw [show ((List.idxOf ((8 : Nat) : Int) [1, 2, 4, 8] : Nat) : Int) = 3 from by decide]
    refine l_get (vs := [.int 0 _, .int 1 _, .int 2 _, .int 3 _]) (i := 3) (x := .int 3 _) (by walk_at "m.C") (by walk_at "m.mem") (by decide) (Nat.le_of_ble_eq_true rfl) rfl ?_ rfl
    repeat walk_at "m.s"
    rw [show v + 3 * 2 ^ ((8 : Int) * ((8 : Nat) : Int) - 2).toNat = encV v from by rw [e2, show ((8 : Int) * ((8 : Nat) : Int) - 2).toNat = 62 from by decide]; omega]
    refine KTBy.to_big (k := 8) (B := 18446744073709551616) (by decide) (by decide) (by omega) (by omega) ?_
    intro bb t2 k2 hb1 hl
    have hbi : KBw.bInts bb = encI v := by rw [hb1]; unfold encI; rw [e1]
    repeat walk_at "m.s"
    walk_at "m.end"
    exact fun Cc => k _ _ bb t2 (Cc.sub fun q hq => .tail _ (.tail _ (.tail _ (.tail _ hq)))) ⟨hbi, hv0, hv1⟩
end

local macro_rules | `(tactic| walk_at "m.meth") => `(tactic| with_reducible refine lm_index (by walk_at "m.C") (by walk_at "m.mem") ?_)
local macro_rules | `(tactic| walk_at "m.s") => `(tactic| ((with_reducible refine' x_st ?C ?_ ?hl); (case hl => exact rfl); (case C => walk_at "m.C"); intro _ _))
local macro_rules | `(tactic| walk_at "m.isC") => `(tactic| first | assumption | rfl)
local macro_rules | `(tactic| walk_at "m.name") => `(tactic| first
  | ((with_reducible refine' n_loc ?C ?m ?N ?v ?_ ?k ?x ?d); (case C => walk_at "m.C"); (case m => exact List.mem_cons_of_mem _ List.mem_cons_self); (case N => assumption); (case v => assumption); (case k => exact rfl); (case x => exact rfl); (case d => decide))
  | ((with_reducible refine' n_cell ?C ?c ?m ?v ?_ ?k ?x ?d); (case C => walk_at "m.C"); (case c => exact rfl); (case m => walk_at "m.mem"); (case v => assumption); (case k => exact rfl); (case x => exact rfl); (case d => decide))
  | ((with_reducible refine' n_glob ?C ?e ?_ ?k ?x ?d); (case C => walk_at "m.C"); (case e => k_is); (case k => exact rfl); (case x => exact rfl); (case d => decide))
  | ((with_reducible refine' x_ldc ?C ?c ?m ?v ?_ ?l ?d); (case C => walk_at "m.C"); (case c => exact rfl); (case m => walk_at "m.mem"); (case v => assumption); (case l => exact rfl); (case d => decide)))

-- Y1
-- LISTS OF THE LAW
section
open Builtin PySem.Calls
variable {w : World} {f : Fm} {m : PySem.Str → Option Value} {news : List (Addr × Obj)} {h : Heap} {E : Value → Shared → Prop}
  {g : Array GenState} {d : Drawn} {tk : Nat} {o : OsState} {Q : Value → Shared → Prop}
variable {a b l : Addr} {vs us : List Value} {ns ms : List Int} {t u : Tok} {A : Around}
theorem l_eq (hl : h.IsList a vs.toArray) (hi : IntsAre vs ns) (hl' : h.IsList b us.toArray) (hi' : IntsAre us ms) (hu : A.units + 64 < 9900) (k : Q (.bool (decide (ns = ms))) ⟨h, g, d, tk, o⟩) : wpAny (MM w) A (compareOp .Eq (.ref a) (.ref b)) Q E ⟨h, g, d, tk, o⟩ := eq_intsK hl hi hl' hi' hu k
theorem l_ne (hl : h.IsList a vs.toArray) (hi : IntsAre vs ns) (hl' : h.IsList b us.toArray) (hi' : IntsAre us ms) (hu : A.units + 64 < 9900) (k : Q (.bool (!decide (ns = ms))) ⟨h, g, d, tk, o⟩) : wpAny (MM w) A (compareOp .NotEq (.ref a) (.ref b)) Q E ⟨h, g, d, tk, o⟩ := ne_intsK hl hi hl' hi' hu k
theorem l_has {i : Int} (hl : h.IsList a vs.toArray) (hi : IntsAre vs ns) (k : Q (.bool (decide (i ∈ ns))) ⟨h, g, d, tk, o⟩) : wpAny (MM w) A (compareOp .In (.int i t) (.ref a)) Q E ⟨h, g, d, tk, o⟩ := by
  refine in_list_ints hl hi ?_
  have e : (ns.any (· == i)) = decide (i ∈ ns) := by
    by_cases z : i ∈ ns
    · rw [decide_eq_true z]; exact List.any_eq_true.mpr ⟨i, z, by simp⟩
    · rw [decide_eq_false z]; exact List.any_eq_false.mpr fun x hx e => z (by rw [beq_iff_eq] at e; exact e ▸ hx)
  rw [e]; exact k
theorem l_plus (C : Cx w f m news h) (hl : h.IsList a vs.toArray) (hb : h.IsList b us.toArray) (hz : vs.length + us.length ≤ 1000) (k : ∀ D h', Cx w f m ((D, listOf (vs ++ us).toArray 0) :: news) h' → (∀ p ∈ news, p.1 < D) → Q (.ref D) ⟨h', g, d, tk, o⟩) :
    wpAny (MM w) A (binaryOp .Add (.ref a) (.ref b)) Q E ⟨h, g, d, tk, o⟩ :=
  add_lists C.F C.N hl hb (fun h' F' N' => k _ h' (C.to F' N') fun p hp => Heap.lt_size (C.N p hp).1) (size_line hz)
theorem l_sorted (C : Cx w f m news h) (hl : h.IsList a vs.toArray) (hi : IntsAre vs ns) (h64 : ns.length < 64)
    (k : ∀ D vs' ns' c h', Cx w f m ((D, listOf vs'.toArray c) :: news) h' → (∀ p ∈ news, p.1 < D) → IntsAre vs' ns' → ns'.Perm ns → ns'.Pairwise (· ≤ ·) → Q (.ref D) ⟨h', g, d, tk, o⟩) :
    wpAny (MM w) A (call (.builtin "sorted") [.ref a]) Q E ⟨h, g, d, tk, o⟩ :=
  kso_sorted C.F C.N hl hi h64 fun D vs' ns' c h' F' N' l1 hi' _ hp hs _ => k D vs' ns' c h' (C.to F' N') l1 hi' hp hs
theorem l_cutI {value slice : Expr} {lo hi : Option Int} {vl vu : Value} (C : Cx w f m news h) (hl : h.IsList a vs.toArray) (hI : IntsAre vs ns) (hm : IntsAre (slicePick vs.toArray lo hi none).toList ms) (pl : IsPart vl lo) (pu : IsPart vu hi) (hz : vs.length ≤ 1000)
    (k : ∀ D ws h', Cx w f m ((D, listOf (List.toArray ws) 0) :: news) h' → (∀ p ∈ news, p.1 < D) → IntsAre ws ms → Q (.ref D) ⟨h', g, d, tk, o⟩) (ht : ∀ r, letTemporaryGo value (.ref a) r = pure ())
    (hs : ∀ sl, subscripted slice false (.ref a) (.ref sl) = operate [.ref sl, .ref a] (getItem (.ref a) (.ref sl))) :
    wpAny (MM w) A (subscriptTail value slice (.ref a) (.ref h.objs.size)) Q E ⟨h.push { cls := .type "slice", data := .fields #[vl, vu, .none] }, g, d, tk, o⟩ :=
  kmk_slice_ints (s := ⟨h, g, d, tk, o⟩) C.F C.N hl pl pu hI hm rfl (fun D ws h' F' N' l1 hw _ _ => k D ws h' (C.to F' N') l1 hw) (hs _) ht (size_line (by rw [List.size_toArray]; exact hz))
theorem l_rev {value slice : Expr} {ops : List Value} {t : Tok} (C : Cx w f m news h) (hl : h.IsList a vs.toArray) (hz : vs.length ≤ 1000)
    (k : ∀ D h', Cx w f m ((D, listOf vs.reverse.toArray 0) :: news) h' → (∀ p ∈ news, p.1 < D) → Q (.ref D) ⟨h', g, d, tk, o⟩) (ht : ∀ r, letTemporaryGo value (.ref a) r = pure ())
    (hs : subscripted slice false (.ref a) (.ref h.objs.size) = operate ops (getItem (.ref a) (.ref h.objs.size))) :
    wpAny (MM w) A (subscriptTail value slice (.ref a) (.ref h.objs.size)) Q E ⟨h.push { cls := .type "slice", data := .fields #[.none, .none, .int (-1) t] }, g, d, tk, o⟩ :=
  kmk_slice3_lit (s := ⟨h, g, d, tk, o⟩) (zs := vs.reverse) C.F C.N hl .none .none (.int (-1) t) (by decide) (by rw [krv_pick]) (fun D h' F' N' l1 => k D h' (C.to F' N') l1) hs ht (size_line (by rw [List.size_toArray]; exact hz))
theorem i_max {x y : Int} (C : Cx w f m news h) (hh : A.handled = none) (k : ∀ h' tk' t', Cx w f m news h' → Q (.int (if y > x then y else x) t') ⟨h', g, d, tk', o⟩) : wpAny (MM w) A (call (.builtin "max") [.int x t, .int y u]) Q E ⟨h, g, d, tk, o⟩ :=
  max_two_N hh C.F C.N fun h' tk' F' N' => k h' tk' _ (C.to F' N')
theorem l_item {value slice : Expr} {i : Int} {x : Value} (hl : h.IsList a vs.toArray) (h0 : 0 ≤ i) (hz : vs.length ≤ 1000) (hx : vs[i.toNat]? = some x) (k : Q x ⟨h, g, d, tk, o⟩)
    (hs : subscripted slice false (.ref a) (.int i t) = operate [.ref a, .int i t] (getItem (.ref a) (.int i t))) (ht : ∀ r, letTemporaryGo value (.ref a) r = pure ()) : wpAny (MM w) A (subscriptTail value slice (.ref a) (.int i t)) Q E ⟨h, g, d, tk, o⟩ := by
  have hlt := (List.getElem?_eq_some_iff.mp hx).1
  exact item_listL hl h0 (by omega) hx k hs ht
-- LOOKS AT THE TREE
theorem t_in {s : Addr} {q : SK} {T hh : Nat} {kid : Kid} {k0 : Int} {kb : Array UInt8} {tb : Tok} (C : Cx w f m news h) (B : BSet w.params T hh news s q kid) (hk : Enc kb k0) (h3 : 3 ≤ T) (h5 : T ≤ 5) (hd : f.dp + hh + 16 < 1000)
    (k : ∀ h' tk', Cx w f m news h' → Q (.bool (decide (k0 ∈ kid.ks))) ⟨h', g, d, tk', o⟩) : wpAny (MM w) (AR f) (compareOp .In (.bytes kb tb) (.ref s)) Q E ⟨h, g, d, tk, o⟩ := by
  refine in_K (K := Mine.hd.heap_39 w.params) (f := 697) C.F C.X (InstAt.of_news C.N B.i B.d) (by k_is) (by k_is) ?_
  exact c_contains C B hk h3 h5 hd fun h' tk' C' => wpAny_truthy_bool (k h' tk' C')
theorem t_notin {s : Addr} {q : SK} {T hh : Nat} {kid : Kid} {k0 : Int} {kb : Array UInt8} {tb : Tok} (C : Cx w f m news h) (B : BSet w.params T hh news s q kid) (hk : Enc kb k0) (h3 : 3 ≤ T) (h5 : T ≤ 5) (hd : f.dp + hh + 16 < 1000)
    (k : ∀ h' tk', Cx w f m news h' → Q (.bool (!decide (k0 ∈ kid.ks))) ⟨h', g, d, tk', o⟩) : wpAny (MM w) (AR f) (compareOp .NotIn (.bytes kb tb) (.ref s)) Q E ⟨h, g, d, tk, o⟩ := by
  refine notIn_K (K := Mine.hd.heap_39 w.params) (f := 697) C.F C.X (InstAt.of_news C.N B.i B.d) (by k_is) (by k_is) ?_
  exact c_contains C B hk h3 h5 hd fun h' tk' C' => wpAny_truthy_bool (k h' tk' C')
theorem t_len {s : Addr} {q : SK} {T hh : Nat} {kid : Kid} (C : Cx w f m news h) (B : BSet w.params T hh news s q kid) (hu : f.un + 1 ≤ 5 * f.dp + 50) (hd : f.dp + 3 < 1000) (hz : kid.ks.length ≤ 1000)
    (k : ∀ h' tk' u, Cx w f m news h' → Q (.int kid.ks.length u) ⟨h', g, d, tk', o⟩) : wpAny (MM w) (AR f) (call (.builtin "len") [.ref s]) Q E ⟨h, g, d, tk, o⟩ := by
  refine len_K (K := Mine.hd.heap_39 w.params) (f := 605) C.F C.X (InstAt.of_news C.N B.i B.d) (by k_is) (by k_is) ?_
  have C1 : Cx w { f with un := f.un + 1 } m news h := ⟨C.B, C.F, C.X, C.N, C.T, C.hf, C.hk, hu⟩
  refine c_len (f := { f with un := f.un + 1 }) C1 B (by show f.dp + 2 < 1000; omega) fun h' tk' u C' => ?_
  exact ⟨⟨by omega, by omega⟩, k h' _ _ ⟨C'.B, C'.F, C'.X, C'.N, C'.T, C'.hf, C'.hk, C.u⟩⟩
end

-- Y2
-- THE LAW'S COMPREHENSIONS
section
open LCg LCt
def notV (v : Int) : Value → Bool := fun y => match y with | .int i _ => decide (i ≠ v) | _ => true
theorem intsAre_notV {v : Int} : ∀ {vs : List Value} {ns : List Int}, IntsAre vs ns → IntsAre (vs.filter (notV v)) (delI v ns)
  | _, _, .nil => .nil
  | _, _, .cons n t h => by
    unfold delI
    rw [List.filter_cons, List.filter_cons]
    show IntsAre (if decide (n ≠ v) = true then _ else _) _
    by_cases e : decide (n ≠ v) = true
    · rw [if_pos e, if_pos e]; exact .cons n t (intsAre_notV h)
    · rw [if_neg e, if_neg e]; exact intsAre_notV h
theorem intsAre_mem : ∀ {vs : List Value} {ns : List Int} {y : Value}, IntsAre vs ns → y ∈ vs → ∃ i t, y = .int i t ∧ i ∈ ns
  | _, _, y, .cons n t h, hy => by
    rcases List.mem_cons.mp hy with rfl | hy
    · exact ⟨n, t, rfl, .head _⟩
    · obtain ⟨i, u, e, q⟩ := intsAre_mem h hy
      exact ⟨i, u, e, .tail _ q⟩
inductive BytesAre : List Value → List Int → Prop
  | nil : BytesAre [] []
  | cons {b : Array UInt8} {t : Tok} {n : Int} {vs : List Value} {ns : List Int} : Enc b n → BytesAre vs ns → BytesAre (.bytes b t :: vs) (n :: ns)
theorem BytesAre.snoc : ∀ {vs : List Value} {ns : List Int} {b : Array UInt8} {t : Tok} {n : Int}, BytesAre vs ns → Enc b n → BytesAre (vs ++ [.bytes b t]) (ns ++ [n])
  | _, _, _, _, _, .nil, e => .cons e .nil
  | _, _, _, _, _, .cons e' h, e => .cons e' (h.snoc e)
theorem BytesAre.length : ∀ {vs : List Value} {ns : List Int}, BytesAre vs ns → vs.length = ns.length
  | _, _, .nil => rfl
  | _, _, .cons _ h => by rw [List.length_cons, List.length_cons, h.length]
theorem BytesAre.mem : ∀ {vs : List Value} {ns : List Int} {y : Value}, BytesAre vs ns → y ∈ vs → ∃ b t n, y = .bytes b t ∧ Enc b n ∧ n ∈ ns
  | _, _, y, .cons (b := b) (t := t) (n := n) e h, hy => by
    rcases List.mem_cons.mp hy with rfl | hy
    · exact ⟨b, t, n, rfl, e, .head _⟩
    · obtain ⟨b, t, n, e, e', q⟩ := h.mem hy
      exact ⟨b, t, n, e, e', .tail _ q⟩
theorem BytesAre.app : ∀ {vs us : List Value} {ns ms : List Int}, BytesAre vs ns → BytesAre us ms → BytesAre (vs ++ us) (ns ++ ms)
  | _, _, _, _, .nil, h => h
  | _, _, _, _, .cons e h, h' => .cons e (h.app h')
theorem BytesAre.rev : ∀ {vs : List Value} {ns : List Int}, BytesAre vs ns → BytesAre vs.reverse ns.reverse
  | _, _, .nil => .nil
  | _, _, .cons e h => by rw [List.reverse_cons, List.reverse_cons]; exact h.rev.snoc e
theorem insI_inc {l : List Int} {k : Int} (h : Inc l) : Inc (insI k l) := by
  unfold insI
  refine List.pairwise_append.mpr ⟨h.filter _, List.pairwise_cons.mpr ⟨fun x hx => by simpa using (List.mem_filter.mp hx).2, h.filter _⟩, fun x hx y hy => ?_⟩
  have hx := (List.mem_filter.mp hx).2
  simp only [decide_eq_true_eq] at hx
  rcases List.mem_cons.mp hy with rfl | hy
  · exact hx
  · have hy := (List.mem_filter.mp hy).2
    simp only [decide_eq_true_eq] at hy
    omega
theorem delI_inc {l : List Int} {k : Int} (h : Inc l) : Inc (delI k l) := h.filter _
theorem ins_perm (k : Int) (l : List Int) : (insI k l).Perm (delI k l ++ [k]) := by
  rw [List.perm_iff_count]
  intro a
  unfold insI delI
  rw [List.count_append, List.count_append, List.count_cons, List.count_cons, List.count_nil]
  have cf : ∀ p : Int → Bool, List.count a (l.filter p) = if p a = true then List.count a l else 0 := fun p => by
    by_cases e : p a = true
    · rw [if_pos e, List.count_filter e]
    · rw [if_neg e, List.count_eq_zero]
      exact fun z => e (List.mem_filter.mp z).2
  rw [cf, cf, cf]
  by_cases h1 : a < k
  · simp [h1, show ¬ k < a by omega, show a ≠ k by omega]
  · by_cases h2 : a = k
    · subst h2; simp
    · simp [h1, show k < a by omega, h2]
theorem ins_sorted {l ns : List Int} {k : Int} (h : Inc l) (hp : ns.Perm (delI k l ++ [k])) (hs : ns.Pairwise (· ≤ ·)) : ns = insI k l :=
  ksm_same (hp.trans (ins_perm k l).symm) hs ((insI_inc h).imp fun x => Int.le_of_lt x)
theorem insI_length (k : Int) (l : List Int) : (insI k l).length ≤ l.length + 1 := by
  rw [(ins_perm k l).length_eq, List.length_append]
  have := List.length_filter_le (fun x => decide (x ≠ k)) l
  show (l.filter _).length + 1 ≤ _
  omega
theorem delI_length (k : Int) (l : List Int) : (delI k l).length ≤ l.length := List.length_filter_le _ l
theorem mem_insI {k x : Int} {l : List Int} : x ∈ insI k l ↔ x = k ∨ x ∈ l := by
  rw [(ins_perm k l).mem_iff, List.mem_append, List.mem_singleton]
  unfold delI
  rw [List.mem_filter]
  by_cases e : x = k <;> simp [e]
theorem mem_delI {k x : Int} {l : List Int} : x ∈ delI k l ↔ x ∈ l ∧ x ≠ k := by unfold delI; rw [List.mem_filter]; simp
section
variable {w : World} {f : Fm} {m : PySem.Str → Option Value} {news : List (Addr × Obj)} {h : Heap} {E : Value → Shared → Prop}
  {g : Array GenState} {d : Drawn} {tk : Nat} {o : OsState} {Q : Value → Shared → Prop}
variable {ct elt iter : Expr} {x y : PySem.Str} {px px' py pos spos : Pos} {scope : Scope} {cl : List (PySem.Str × Addr)} {vs : List Value} {ns : List Int} {l e : Nat} {v : Int}
/-- the test that an item is not v -/
def NotTest (w : World) (f : Fm) (m : PySem.Str → Option Value) (news : List (Addr × Obj)) (g : Array GenState) (d : Drawn) (o : OsState) (ct : Expr) (x : PySem.Str) (scope : Scope) (cl : List (PySem.Str × Addr)) (v : Int) : Prop :=
  ∀ i t I oI C oC D ys m₂ h tk, NsObj oC m₂ → m₂ x = some (.int i t) → Cx w f m ((I, oI) :: (C, oC) :: (D, lst ys) :: news) h → wpAny (MM w) (AR f) (isTrue ct (compEnvC scope cl C f.env) (eval ct (compEnvC scope cl C f.env)))
    (fun ok s' => ok = (!decide (i = v)) ∧ ∃ h' tk', s' = ⟨h', g, d, tk', o⟩ ∧ Cx w f m ((I, oI) :: (C, oC) :: (D, lst ys) :: news) h') (fun _ _ => False) ⟨h, g, d, tk, o⟩
theorem NotTest.pick (hI : IntsAre vs ns) (T : NotTest w f m news g d o ct x scope cl v) : PickTest w f m news g d o ct x scope cl vs (notV v) := by
  intro u I oI C oC D ys m₂ h tk hu hN hm C1
  obtain ⟨i, t, rfl, _⟩ := intsAre_mem hI hu
  refine wpAny_mono (T i t I oI C oC D ys m₂ h tk hN hm C1) (fun ok s' z => ⟨?_, z.2⟩) fun _ _ z => z
  rw [z.1]; simp [notV]
theorem keep_list (C : Cx w f m news h) (hm : (l, listOf vs.toArray e) ∈ news) (hI : IntsAre vs ns) (hz : vs.length ≤ 1000) (hi : ∀ {Q' : Value → Shared → Prop}, Q' (.ref l) ⟨h, g, d, tk, o⟩ → wpAny (MM w) (AR f) (eval iter f.env) Q' E ⟨h, g, d, tk, o⟩)
    (hclos : closureFor scope f.env = pure cl) (hcell : ∀ y ∈ scope.names, y.2 ≠ .cell) (hkd : scope.kind = .function) (hnames : ∀ y ∈ scope.names, y.2 = .local → scope.names.lookup y.1 = some .local) (hx : scope.names.lookup x = some .local)
    (hd : (x == ("__debug__" : PySem.Str)) = false) (hs : ∀ x, foldedSetIterable iter f.env x = pure x) (T : NotTest w f m news g d o ct x scope cl v)
    (k : ∀ D ws c h' tk', Cx w f m ((D, listOf (List.toArray ws) c) :: news) h' → (∀ q ∈ news, q.1 ≠ D) → IntsAre ws (delI v ns) → Q (.ref D) ⟨h', g, d, tk', o⟩) :
    wpAny (MM w) (AR f) (eval (.ListComp (.Name x px') [⟨.Name x px, iter, [ct], 0⟩] scope pos) f.env) Q E ⟨h, g, d, tk, o⟩ :=
  pick_list C hm hz hi hclos hcell hkd hnames hx hd hs (T.pick hI) fun D h' tk' C' l1 => k D _ _ h' tk' C' l1 (intsAre_notV hI)
theorem keep_assign {R : Flow → Shared → Prop} (C : Cx w f m news h) (hm : (l, listOf vs.toArray e) ∈ news) (hI : IntsAre vs ns) (hz : vs.length ≤ 1000) (hi : ∀ {Q' : Value → Shared → Prop}, Q' (.ref l) ⟨h, g, d, tk, o⟩ → wpAny (MM w) (AR f) (eval iter f.env) Q' E ⟨h, g, d, tk, o⟩)
    (hLe : f.env.locals = f.L) (hsw : swapsWith (.ListComp (.Name x px') [⟨.Name x px, iter, [ct], 0⟩] scope pos) (some (.Name y py)) spos.line f.env = pure true)
    (hclos : closureFor scope f.env = pure cl) (hcell : ∀ y ∈ scope.names, y.2 ≠ .cell) (hkd : scope.kind = .function) (hnames : ∀ y ∈ scope.names, y.2 = .local → scope.names.lookup y.1 = some .local) (hx : scope.names.lookup x = some .local)
    (hy : f.env.kindOf y = some .local) (hp : (f.env.scope.kind == .class || (f.env.scope.kind == .module && f.env.locals != f.env.globals)) = false)
    (hd : (x == ("__debug__" : PySem.Str)) = false) (hs : ∀ x, foldedSetIterable iter f.env x = pure x) (T : NotTest w f m news g d o ct x scope cl v)
    (k : ∀ D ws c h' tk', Cx w f (fun z => if z = y then some (.ref D) else m z) ((D, listOf (List.toArray ws) c) :: news) h' → (∀ q ∈ news, q.1 ≠ D) → IntsAre ws (delI v ns) → R .next ⟨h', g, d, tk', o⟩) :
    wpAny (MM w) (AR f) (exec (.Assign [.Name y py] (.ListComp (.Name x px') [⟨.Name x px, iter, [ct], 0⟩] scope pos) spos) f.env) R E ⟨h, g, d, tk, o⟩ := by
  refine Assign_ListComp_T C.F hLe hsw hclos hcell hkd hnames hx hy hp (hi ?_) hs
  refine CompSrcT.ledger rfl C.F C.N hm (by rw [List.size_toArray]; exact size_line hz) fun g' => ?_
  rw [List.size_toArray]
  refine pick_rest C (.inr ⟨_, hm, rfl, _, rfl⟩) (lookup_relabel_local hx) hd hkd (T.pick hI) vs.length 0 [] (by omega) ?_
  intro D h' tk' F N off
  exact k D _ _ h' tk' (C.to F N) (off1_mem off) (intsAre_notV hI)
/-- the item of a comprehension that makes octets of each number -/
def MapItem (w : World) (f : Fm) (m : PySem.Str → Option Value) (news : List (Addr × Obj)) (g : Array GenState) (d : Drawn) (o : OsState) (elt : Expr) (x : PySem.Str) (scope : Scope) (cl : List (PySem.Str × Addr)) (ns : List Int) : Prop :=
  ∀ i t I oI C oC D ys m₂ h tk, i ∈ ns → NsObj oC m₂ → m₂ x = some (.int i t) → Cx w f m ((I, oI) :: (C, oC) :: (D, lst ys) :: news) h → wpAny (MM w) (AR f) (eval elt (compEnvC scope cl C f.env))
    (fun y s' => (∃ b u, y = .bytes b u ∧ Enc b i) ∧ ∃ h' tk', s' = ⟨h', g, d, tk', o⟩ ∧ Cx w f m ((I, oI) :: (C, oC) :: (D, lst ys) :: news) h') (fun _ _ => False) ⟨h, g, d, tk, o⟩
theorem map_rest {S : List (Addr × Obj) → Prop} {Fin : List Value → List (Addr × Obj) → Prop} {h₁ : Heap} {tk₁ : Nat} (C₀ : Cx w f m news h) (hS : S news) (hI : IntsAre vs ns)
    (T : MapItem w f m news g d o elt x scope cl ns) (fin : ∀ ys, BytesAre ys ns → Fin ys news) : ∀ k i ys, i + k = vs.length → BytesAre ys (ns.take i) →
      CompRest PR w (AR f) f.h₀ f.L m f.env elt x scope cl ⟨h₁, g, d, tk₁, o⟩ S (fun i v => vs.toArray[i]? = some v) Fin k i ys news := by
  intro k
  induction k with
  | zero =>
    intro i ys hk hf
    refine CompRest.zero (fin ys ?_)
    rw [List.take_of_length_le (by rw [← hI.length]; omega)] at hf
    exact hf
  | succ k ih =>
    intro i ys hk hf
    refine CompRest.succ ?_
    intro v I oI C oC D m₂ h2 tk2 E' hP hN hv F N off ne
    have hvs : vs[i]? = some v := by simpa using hP
    obtain ⟨j, t, rfl, hj⟩ := hI.at _ _ hvs
    refine wpAny_mono (T j t I oI C oC D ys m₂ h2 tk2 (List.mem_of_getElem? hj) hN hv (C₀.to F N)) (fun y s' z => ?_) fun _ _ z => z.elim
    obtain ⟨⟨b, u, rfl, hb⟩, h3, tk3, rfl, C3⟩ := z
    refine CompEnd.intro C3.F C3.N news (fun _ h => h) off hS (ih (i + 1) _ (by omega) ?_)
    rw [List.take_succ, hj]
    exact hf.snoc hb
theorem map_list (C : Cx w f m news h) (hm : (l, listOf vs.toArray e) ∈ news) (hI : IntsAre vs ns) (hz : vs.length ≤ 1000) (hi : ∀ {Q' : Value → Shared → Prop}, Q' (.ref l) ⟨h, g, d, tk, o⟩ → wpAny (MM w) (AR f) (eval iter f.env) Q' E ⟨h, g, d, tk, o⟩)
    (hclos : closureFor scope f.env = pure cl) (hcell : ∀ y ∈ scope.names, y.2 ≠ .cell) (hkd : scope.kind = .function) (hnames : ∀ y ∈ scope.names, y.2 = .local → scope.names.lookup y.1 = some .local) (hx : scope.names.lookup x = some .local)
    (hs : ∀ x, foldedSetIterable iter f.env x = pure x) (T : MapItem w f m news g d o elt x scope cl ns)
    (k : ∀ D ws c h' tk', Cx w f m ((D, listOf (List.toArray ws) c) :: news) h' → (∀ q ∈ news, q.1 ≠ D) → BytesAre ws ns → Q (.ref D) ⟨h', g, d, tk', o⟩) :
    wpAny (MM w) (AR f) (eval (.ListComp elt [⟨.Name x px, iter, [], 0⟩] scope pos) f.env) Q E ⟨h, g, d, tk, o⟩ := by
  refine ListComp_U C.F hclos hcell hkd hnames hx (hi ?_) hs
  refine CompSrc.ledger rfl C.F C.N hm (by rw [List.size_toArray]; exact size_line hz) fun g' => ?_
  rw [List.size_toArray]
  refine map_rest C (.inr ⟨_, hm, rfl, _, rfl⟩) hI T (fun ys hy => ?_) vs.length 0 [] (by omega) .nil
  intro D h' tk' F N off
  exact k D _ _ h' tk' (C.to F N) (off1_mem off) hy
end
end

-- Y3
-- OCTETS ALIKE
section
open PySem.SeqAt
theorem Enc.same {b c : Array UInt8} {n : Int} (x : Enc b n) (y : Enc c n) : b = c := bInts_inj (x.1.trans y.1.symm)
theorem eqAt_bytes {A : Around} {s : Shared} {b : Array UInt8} {t u : Tok} : EqAt A s (.bytes b t) (.bytes b u) true := fun prog w E Q h => by
  unfold eqBool
  refine wpAny_holding ?_
  refine wpAny_ite_split (fun hab => wpAny_bind (wpAny_rule (wpAny_pure h))) (fun hab => ?_)
  exact wpAny_bind (PySem.W.eq_bytes (by rw [beq_self_eq_true]; exact wpAny_truthy_bool h))
variable {w : World} {f : Fm} {m : PySem.Str → Option Value} {news : List (Addr × Obj)} {h : Heap} {E : Value → Shared → Prop}
  {g : Array GenState} {d : Drawn} {tk : Nat} {o : OsState} {Q : Value → Shared → Prop}
variable {a b : Addr} {vs us : List Value} {ns : List Int} {A : Around}
theorem BytesAre.get : ∀ {vs : List Value} {ns : List Int}, BytesAre vs ns → ∀ j (h1 : j < vs.length) (h2 : j < ns.length), ∃ b t, vs[j] = .bytes b t ∧ Enc b ns[j]
  | _, _, .cons (b := b) (t := t) e h, 0, _, _ => ⟨b, t, rfl, e⟩
  | _, _, .cons e h, j + 1, h1, h2 => h.get j (Nat.lt_of_succ_lt_succ h1) (Nat.lt_of_succ_lt_succ h2)
theorem o_eq (hl : h.IsList a (vs ++ [Value.none]).toArray) (hb : h.IsList b (us ++ [Value.none]).toArray) (h1 : BytesAre vs ns) (h2 : BytesAre us ns) (hu : A.units < 9900) (k : Q (.bool true) ⟨h, g, d, tk, o⟩) :
    wpAny (MM w) A (compareOp .Eq (.ref a) (.ref b)) Q E ⟨h, g, d, tk, o⟩ := by
  have e1 := h1.length
  have e2 := h2.length
  refine eq_listAt (e := fun _ => true) hl hb (by simp [e1, e2]) hu (fun j q1 q2 => ?_) ?_
  · simp only [List.size_toArray, List.length_append, List.length_singleton] at q1 q2
    rw [List.getElem_toArray, List.getElem_toArray]
    by_cases hj : j < ns.length
    · rw [List.getElem_append_left (by omega), List.getElem_append_left (by omega)]
      obtain ⟨b1, t1, w1, x1⟩ := h1.get j (by omega) hj
      obtain ⟨b2, t2, w2, x2⟩ := h2.get j (by omega) hj
      rw [w1, w2, x1.same x2]
      exact eqAt_bytes
    · rw [List.getElem_append_right (by omega), List.getElem_append_right (by omega), List.getElem_singleton, List.getElem_singleton]
      exact EqAt.same _
  · rw [List.all_eq_true.mpr fun _ _ => rfl]; exact k
theorem o_ne {b c : Array UInt8} {t u : Tok} {n : Int} (x : Enc b n) (y : Enc c n) (k : Q (.bool false) ⟨h, g, d, tk, o⟩) : wpAny (MM w) A (compareOp .NotEq (.bytes b t) (.bytes c u)) Q E ⟨h, g, d, tk, o⟩ := by
  refine PySem.W.ne_bytes ?_
  rw [x.same y]
  simpa using k
end

-- X3
-- THE LAW'S OWN FRAME
section
open PySem PySem.W PySem.Calls PyProof.Rows PySem.Spec PyProof.V Builtin LCg
variable {w : World} {h : Heap} {g : Array GenState} {d : Drawn} {tk : Nat} {o : OsState}
/-- a call from the claim's own caller: a def whose frame has cells -/
theorem enterC_top {p : Program} {lo : List PySem.Str} {me : ExcName → Option Value} {mg mb : PySem.Str → Option Value} {R : Result → Shared → Prop} {name qual : PySem.Str} {params : Arguments} {body : List Stmt} {scope : Scope} {dV kV doc pm cdv ct oc : Value} {an od : Option Addr} {osl : Array (Option Value)}
    {fa : Addr} {args : Args} {binds : List (PySem.Str × Value)} (X : (Mine.hd.heap_39 w.params).In h) (T : Top p lo me mg mb h)
    (ho : (Mine.hd.heap_39 w.params).lookup fa = some ⟨oc, od, .func (fnOf name qual params body scope dV kV doc pm an cdv ct), osl⟩) (hcd : codeIn (Mine.hd.heap_39 w.params) cdv qual = true)
    (hbind : bindArgs (fnOf name qual params body scope dV kV doc pm an cdv ct) args = pure binds)
    (hkind : (binds.all fun y => scope.names.lookup y.1 == some .local || scope.names.lookup y.1 == some .cell) = true) (hnd : ((cellsFrom 0 scope.names []).map (·.1)).Nodup)
    (hb : ∀ L' h' tk' cells, Cx w ⟨envX qual scope L' fa cdv (cellsFrom (L' + 1) scope.names []), [], h, L', 302, 7, some []⟩ (bindL (envX qual scope L' fa cdv (cellsFrom (L' + 1) scope.names [])).kindOf binds fun _ => none) cells h' →
      CellsAre (bindC (envX qual scope L' fa cdv (cellsFrom (L' + 1) scope.names [])).kindOf binds fun _ => none) (cellsFrom (L' + 1) scope.names []) cells →
      wpC (MM w) (AR ⟨envX qual scope L' fa cdv (cellsFrom (L' + 1) scope.names []), [], h, L', 302, 7, some []⟩) (execs body (envX qual scope L' fa cdv (cellsFrom (L' + 1) scope.names [])))
        (fun fl s' => R (.ok (.ret (match fl with | .ret v => v | _ => .none))) s') (fun _ _ => False) ⟨h', g, d, tk', o⟩)
    (hco : scope.isCoroutine = false) (hgen : scope.isGenerator = false) (hk : scope.kind = .function) :
    codeC (MM w) callerA (.call (.ref fa) args) R ⟨h, g, d, tk, o⟩ := by
  refine codeC_of_tree rfl ?_
  show wpC _ callerA.in1 (callAny (.ref fa) args) _ _ _
  simp only [callAny]
  refine wpC_bindA (wpAny_load (X _ _ ho) ?_)
  obtain ⟨c, oc, vs, tq, hc, hoc, hdc, hq⟩ := codeRec_of X hcd
  subst hc
  simp only [callFunction, hco, hgen]
  refine wpC_bindA (m := field (.ref c) 1) (wpAny_field hoc hdc hq ?_)
  refine wpC_bindA (wpAny_pure ?_)
  refine wpC_bindA (wpAny_of_eq hbind ?_)
  refine wpC_bindA (wpAny_newFunctionEnv_cells hk (kindsX hkind _) fun env' he s' x => ?_)
  subst he
  obtain ⟨h₁, tk₁, rfl, _⟩ := x.done
  have hk₁ := x.toInCall.keep
  refine wpC_bindA (wpAny_enterFrame (T.nolimit.keeps hk₁) (by decide) ?_)
  refine wpC_pure ⟨rfl, codeC_func ?_⟩
  obtain ⟨cells, NC, Y⟩ := Cl.news (h₀ := h) (Nat.le_refl _) fun n c hm => ⟨x.cell n c (lookup_of_mem_nodup (cellsFrom_names scope.names 0 (h.objs.size + 1) [] [] rfl ▸ hnd) hm), x.above n c hm⟩
  refine hb h.objs.size h₁ tk₁ cells ⟨⟨_, _, below_caller h⟩, ⟨x.toInCall.ns, hk₁, Nat.le_refl _⟩, X, NC, ⟨p, lo, me, mg, mb, T⟩, rfl, hk, Nat.le_of_ble_eq_true rfl⟩ Y
end

-- Z1
-- THE LAW'S LEDGER AND LOOPS
section
variable {w : World} {f : Fm} {m m' : PySem.Str → Option Value} {news news' : List (Addr × Obj)} {h h' : Heap} {E : Value → Shared → Prop}
  {g : Array GenState} {d : Drawn} {tk : Nat} {o : OsState}
theorem re_eq {x : PySem.Str} {v : Value} (e : m x = some v) : (fun y => if y = x then some v else m y) = m := by
  funext y
  by_cases q : y = x
  · rw [if_pos q, q, e]
  · rw [if_neg q]
theorem Cx.re {x : PySem.Str} {v : Value} (C : Cx w f m news h) (e : m x = some v) : Cx w f (fun y => if y = x then some v else m y) news h := by rw [re_eq e]; exact C
theorem Cx.but {I : Addr} {it it' : Obj} (C : Cx w f m news h) (hI : (I, it) ∈ news) (hk : ∀ b o, b ∉ [I] → h.get? b = some o → h'.get? b = some o) : Cx w f m (news.filter fun p => decide (p.1 ≠ I)) h' :=
  C.to (LCg.fr_but C.F hk (Ne.symm (C.N _ hI).2.1) (C.N _ hI).2.2) (fun p hp => by
    obtain ⟨h1, h2⟩ := List.mem_filter.mp hp
    exact ⟨hk _ _ (by simpa using h2) (C.N p h1).1, (C.N p h1).2⟩)
theorem Cx.turn {I : Addr} {it it' : Obj} (C : Cx w f m news h) (hI : (I, it) ∈ news) (hk : ∀ b o, b ∉ [I] → h.get? b = some o → h'.get? b = some o) (hg : h'.get? I = some it') : Cx w f m (up I it' news) h' := by
  have C1 := C.but (it' := it') hI hk
  refine C1.to C1.F fun p hp => ?_
  rcases List.mem_cons.mp hp with rfl | hp
  · exact ⟨hg, (C.N _ hI).2⟩
  · exact C1.N p hp
theorem Ch.but {I : Addr} {it : Obj} (C : Cx w f m news h) (hI : (I, it) ∈ news) (hz : frz it = false) : Ch news [I] (news.filter fun p => decide (p.1 ≠ I)) [] := by
  refine ⟨fun b x hb hk => List.mem_filter.mpr ⟨hb, ?_⟩, fun b hb => (nomatch hb)⟩
  simp only [decide_eq_true_eq]
  intro e
  subst e
  rcases hk with hk | hk
  · rw [C.same hb hI, hz] at hk; cases hk
  · exact hk (.head _)
theorem c_for {x : PySem.Str} {px : Pos} {body : List Stmt} {I : Addr} {fp : List Addr} {n : Nat} {P : Nat → Value → Prop} {St : Nat → Heap → Prop} {QF : Flow → Shared → Prop} (W : Walks PR w (AR f) I fp [I] n P St) (keep : List (Addr × Obj))
    (hIo : ∀ i h, St i h → ∃ o, h.get? I = some o ∧ frz o = false) (hfp : ∀ b ∈ fp, b = I ∨ ∃ ob, (b, ob) ∈ keep) (hkI : ∀ p ∈ keep, p.1 ≠ I)
    (J : Nat → (PySem.Str → Option Value) → List (Addr × Obj) → Prop) {it : Obj} (C : Cx w f m news h) (hI : (I, it) ∈ news) (hz : frz it = false) (hk : ∀ p ∈ keep, p ∈ news) (hst : St 0 h) (hJ : J 0 m news)
    (turn : ∀ i v m₁ news₀ news₁ h₁ tk₁ it₁, i < n → P i v → J i m₁ news₀ → Cx w f m₁ news₁ h₁ → Ch news₀ [I] news₁ [I] → (I, it₁) ∈ news₁ → (∀ p ∈ keep, p ∈ news₁) →
      wpAny (MM w) (AR f) (storeName f.env x v) (fun _ s₂ => wpC (MM w) (AR f) (execs body f.env) (fun fl s' => match fl with
        | .next | .cont => ∃ h' tk' m' news', s' = ⟨h', g, d, tk', o⟩ ∧ Cx w f m' news' h' ∧ (I, it₁) ∈ news' ∧ (∀ p ∈ keep, p ∈ news') ∧ J (i + 1) m' news'
        | .brk => False
        | .ret v => QF (.ret v) s') (fun _ _ => False) s₂) (fun _ _ => False) ⟨h₁, g, d, tk₁, o⟩)
    (done : ∀ h' tk' m' news₀ news', J n m' news₀ → Cx w f m' news' h' → Ch news₀ [I] news' [] → QF .next ⟨h', g, d, tk', o⟩) :
    codeC (MM w) (AR f) (.forLoop (.Name x px) (.ref I) body [] f.env) (fun r s' => match r with | .ok fl => QF fl s' | .error e => False) ⟨h, g, d, tk, o⟩ := by
  refine codeC_forLoop (fun k s => ∃ i h tk m news it, k = n - i ∧ i ≤ n ∧ s = ⟨h, g, d, tk, o⟩ ∧ Cx w f m news h ∧ (I, it) ∈ news ∧ frz it = false ∧ (∀ p ∈ keep, p ∈ news) ∧ St i h ∧ J i m news) ?_ n ⟨0, h, tk, m, news, it, by omega, by omega, rfl, C, hI, hz, hk, hst, hJ⟩
  rintro k s ⟨i, h, tk, m, news, it, rfl, hi, rfl, C, hI, hz, hk, hst, hJ⟩
  by_cases hin : i < n
  · refine W.item i _ _ _ hin hst fun v h1 tk1 hP hst1 hk1 => ?_
    obtain ⟨it1, hg, hz1⟩ := hIo _ _ hst1
    have C1 := C.turn hI hk1 hg
    refine wpAny_pure ?_
    refine wpAny_assign_Name ?_
    refine wpAny_mono (turn i v m news (up I it1 news) h1 tk1 it1 hin hP hJ C1 (Ch.up C hI hz) mem_up_self fun p hp => mem_up (hk p hp) (hkI p hp)) (fun _ s2 z => ?_) fun _ _ z => z
    refine wpC_mono z (fun fl s' z => ?_) fun _ _ z => z
    have nx : (∃ h' tk' m' news', s' = ⟨h', g, d, tk', o⟩ ∧ Cx w f m' news' h' ∧ (I, it1) ∈ news' ∧ (∀ p ∈ keep, p ∈ news') ∧ J (i + 1) m' news') →
        ∃ k', k' < n - i ∧ ∃ i h tk m news it, k' = n - i ∧ i ≤ n ∧ s' = ⟨h, g, d, tk, o⟩ ∧ Cx w f m news h ∧ (I, it) ∈ news ∧ frz it = false ∧ (∀ p ∈ keep, p ∈ news) ∧ St i h ∧ J i m news := by
      rintro ⟨h', tk', m', news', rfl, C', hI', hk', hJ'⟩
      refine ⟨n - (i + 1), by omega, i + 1, h', tk', m', news', it1, rfl, by omega, rfl, C', hI', hz1, hk', ?_, hJ'⟩
      refine W.frame _ _ _ hst1 fun b hb ob e => ?_
      rcases hfp b hb with rfl | ⟨ob', hb'⟩
      · rw [hg] at e; cases e; exact C'.get hI'
      · have := C1.get (mem_up (hk _ hb') (hkI _ hb'))
        rw [this] at e; cases e
        exact C'.get (hk' _ hb')
    cases fl with
    | next => exact nx z
    | cont => exact nx z
    | brk => exact z.elim
    | ret v => exact z
  · obtain rfl : i = n := by omega
    refine W.done _ _ _ hst fun h1 tk1 hk1 => ?_
    exact done h1 tk1 m news _ hJ (C.but (it' := it) hI hk1) (Ch.but C hI hz)
-- THE LAW'S LEDGER: the tree, and other cells beside it
structure LI (P : Params) (T hh : Nat) (news : List (Addr × Obj)) (s : Addr) (q : SK) (kid : Kid) (R : List (Addr × Obj)) : Prop where
  B : BSet P T hh news s q kid
  sub : ∀ p ∈ R, p ∈ news
  off : ∀ p ∈ R, p.1 ∉ q.fp kid
  nd : (R.map (·.1)).Nodup
variable {P : Params} {T hh hh' : Nat} {s c D : Addr} {q q' : SK} {kid kid' : Kid} {R R' R1 R2 : List (Addr × Obj)} {n1 n2 : List (Addr × Obj)} {f1 f2 : List Addr} {ob ob' : Obj}
theorem BSet.has (B : BSet P T hh news s q kid) : ∀ b ∈ q.fp kid, ∃ x, (b, x) ∈ news := fun b hb => by
  simp only [SK.fp, List.mem_cons] at hb
  rcases hb with rfl | rfl | hb
  · exact ⟨_, B.d⟩
  · exact ⟨_, B.cl⟩
  · exact B.tr.has b hb
theorem LI.ch (L : LI P T hh n1 s q kid R) (k : Ch n1 f1 n2 f2) (h1 : ∀ b ∈ q.fp kid, b ∉ f1) (h2 : ∀ p ∈ R, p.1 ∉ f1) : LI P T hh n2 s q kid R :=
  ⟨L.B.ch k h1, fun p hp => k.keep (L.sub p hp) (h2 p hp), L.off, L.nd⟩
theorem LI.mono (L : LI P T hh n1 s q kid R) (k : ∀ p ∈ n1, p ∈ n2) : LI P T hh n2 s q kid R := L.ch (Ch.none k) (fun _ _ h => nomatch h) fun _ _ h => nomatch h
theorem LI.less (L : LI P T hh n1 s q kid R) (k : ∀ p ∈ R', p ∈ R) (hn : (R'.map (·.1)).Nodup) : LI P T hh n1 s q kid R' := ⟨L.B, fun p hp => L.sub p (k p hp), fun p hp => L.off p (k p hp), hn⟩
theorem LI.tree (L : LI P T hh n1 s q kid R) (B' : BSet P T hh' n2 s q' kid') (k : Ch n1 (q.fp kid) n2 (q'.fp kid')) : LI P T hh' n2 s q' kid' R := by
  refine ⟨B', fun p hp => k.keep (L.sub p hp) (L.off p hp), fun p hp hb => ?_, L.nd⟩
  refine Ch.disj (R := R.map (·.1)) k (fun b hb hr => ?_) (fun b hb => ?_) _ hb (List.mem_map_of_mem hp)
  · obtain ⟨p, hp, rfl⟩ := List.mem_map.mp hr
    exact L.off p hp hb
  · obtain ⟨p, hp, rfl⟩ := List.mem_map.mp hb
    exact ⟨p.2, L.sub p hp⟩
/-- a cell or iterator turned -/
theorem LI.set (L : LI P T hh news s q kid (R1 ++ (c, ob) :: R2)) (k : Ch news [c] (up c ob' news) [c]) : LI P T hh (up c ob' news) s q kid (R1 ++ (c, ob') :: R2) := by
  have nd := L.nd
  rw [List.map_append, List.map_cons] at nd
  have d2 := List.nodup_append.mp nd
  refine ⟨L.B.ch k fun b hb e => L.off (c, ob) (by simp) (by rw [List.mem_singleton.mp e] at hb; exact hb), fun p hp => ?_, fun p hp => ?_, by simpa using L.nd⟩
  · rcases List.mem_append.mp hp with hp | hp
    · exact k.keep (L.sub p (by simp [hp])) fun e => d2.2.2 p.1 (List.mem_map_of_mem hp) c (by simp) (List.mem_singleton.mp e)
    · rcases List.mem_cons.mp hp with rfl | hp
      · exact mem_up_self
      · exact k.keep (L.sub p (by simp [hp])) fun e => (List.nodup_cons.mp d2.2.1).1 ((List.mem_singleton.mp e : p.1 = c) ▸ (List.mem_map_of_mem (f := (·.1)) hp))
  · rcases List.mem_append.mp hp with hp | hp
    · exact L.off p (by simp [hp])
    · rcases List.mem_cons.mp hp with rfl | hp
      · exact L.off (c, ob) (by simp)
      · exact L.off p (by simp [hp])
/-- something new in the ledger -/
theorem LI.push (L : LI P T hh n1 s q kid R) (k : ∀ p ∈ n1, p ∈ n2) (hD : (D, ob) ∈ n2) (hn : ∀ p ∈ n1, p.1 ≠ D) : LI P T hh n2 s q kid (R ++ [(D, ob)]) := by
  have L2 := L.mono k
  refine ⟨L2.B, fun p hp => ?_, fun p hp => ?_, ?_⟩
  · rcases List.mem_append.mp hp with hp | hp
    · exact L2.sub p hp
    · rw [List.mem_singleton.mp hp]; exact hD
  · rcases List.mem_append.mp hp with hp | hp
    · exact L.off p hp
    · rw [List.mem_singleton.mp hp]
      intro hb
      obtain ⟨x, hx⟩ := L.B.has _ hb
      exact hn _ hx rfl
  · rw [List.map_append]
    refine List.nodup_append.mpr ⟨L.nd, by simp, fun a ha b hb e => ?_⟩
    obtain ⟨p, hp, rfl⟩ := List.mem_map.mp ha
    simp only [List.map_cons, List.map_nil, List.mem_singleton] at hb
    exact hn p (L.sub p hp) (e.trans hb)
end

-- ZA
-- WHAT STANDS AT EACH STAGE OF THE LAW
section
variable {w : World} {f : Fm} {m : PySem.Str → Option Value} {news : List (Addr × Obj)} {h : Heap} {E : Value → Shared → Prop}
  {g : Array GenState} {d : Drawn} {tk : Nat} {o : OsState} {Q : Value → Shared → Prop}
abbrev Cx.nw {w : World} {f : Fm} {m : PySem.Str → Option Value} {news : List (Addr × Obj)} {h : Heap} (_ : Cx w f m news h) : List (Addr × Obj) := news
abbrev Cx.mm {w : World} {f : Fm} {m : PySem.Str → Option Value} {news : List (Addr × Obj)} {h : Heap} (_ : Cx w f m news h) : PySem.Str → Option Value := m
theorem cut {prog : Program} {w : World} {A : Around} {E : Value → Shared → Prop} {s : Shared} {env : Env} {st : Stmt} {rest : List Stmt} {Q : Flow → Shared → Prop} (J : Shared → Prop) (h1 : wpC (model prog w) A (exec st env) (fun fl s' => fl = .next ∧ J s') E s) (h2 : ∀ s', J s' → wpC (model prog w) A (execs rest env) Q E s') :
    wpC (model prog w) A (execs (st :: rest) env) Q E s := by
  refine cs_execs (wpC_mono h1 (fun fl s' z => ?_) fun _ _ x => x)
  obtain ⟨rfl, z⟩ := z
  exact h2 _ z
/-- after a statement -/
def SA (w : World) (f : Fm) (g : Array GenState) (d : Drawn) (o : OsState) (P : (PySem.Str → Option Value) → List (Addr × Obj) → Prop) (s' : Shared) : Prop := ∃ h' tk' m' news', s' = ⟨h', g, d, tk', o⟩ ∧ Cx w f m' news' h' ∧ P m' news'
theorem SA.mk {P : (PySem.Str → Option Value) → List (Addr × Obj) → Prop} {fl : Flow} (C : Cx w f m news h) (hf : fl = .next) (p : P m news) : fl = .next ∧ SA w f g d o P ⟨h, g, d, tk, o⟩ := ⟨hf, _, _, _, _, rfl, C, p⟩
/-- the names of the law's loops -/
def lm (l : Addr) (a : Int) (t : Tok) (D : Addr) (m0 : PySem.Str → Option Value) : PySem.Str → Option Value := fun y => if y = "script" then some (.ref l) else if y = "a" then some (.int a t) else if y = "held" then some (.ref D) else m0 y
theorem lm_eq {l : Addr} {a : Int} {t : Tok} {D : Addr} {m : PySem.Str → Option Value} (h1 : m "script" = some (.ref l)) (h2 : m "a" = some (.int a t)) (h3 : m "held" = some (.ref D)) : m = lm l a t D m := by
  unfold lm
  funext y
  by_cases q1 : y = "script"
  · rw [if_pos q1, q1, h1]
  rw [if_neg q1]
  by_cases q2 : y = "a"
  · rw [if_pos q2, q2, h2]
  rw [if_neg q2]
  by_cases q3 : y = "held"
  · rw [if_pos q3, q3, h3]
  rw [if_neg q3]
theorem lmo_eq {l : Addr} {a : Int} {t : Tok} {D : Addr} {m : PySem.Str → Option Value} {v : Value} (h0 : m "octets" = some v) (h1 : m "script" = some (.ref l)) (h2 : m "a" = some (.int a t)) (h3 : m "held" = some (.ref D)) : m = fun y : PySem.Str => if y = "octets" then some v else lm l a t D m y := by
  have e := congrFun (lm_eq h1 h2 h3)
  funext y
  by_cases q : y = "octets"
  · rw [if_pos q, q, h0]
  · rw [if_neg q]; exact e y
/-- what the law keeps: the tree, the list of what it is to hold, the cells -/
structure LK (P : Params) (T i : Nat) (news : List (Addr × Obj)) (ct cv cg s : Addr) (q : SK) (kid : Kid) (hh : Nat) (ot ov og : Obj) (D n : Nat) (vs : List Value) (ns : List Int) (X : List (Addr × Obj)) : Prop where
  L : LI P T hh news s q kid ([(ct, ot), (cv, ov), (cg, og), (D, listOf vs.toArray n)] ++ X)
  hI : IntsAre vs ns
  ht : ot.data = .cell (some (.ref s))
  hv : ∃ x, ov.data = .cell x
  hg : ∃ x, og.data = .cell x
  hh : hh ≤ i
  hn : ns.length ≤ i
  hr : ∀ k ∈ ns, Rng k
def LJ (w : World) (T : Nat) (l ct cv cg : Addr) (a : Int) (X : List (Addr × Obj)) (i : Nat) (m : PySem.Str → Option Value) (news : List (Addr × Obj)) : Prop :=
  ∃ s q kid hh ot ov og D n vs t m0, m = lm l a t D m0 ∧ LK w.params T i news ct cv cg s q kid hh ot ov og D n vs kid.ks X
theorem LI.setX {P : Params} {T hh : Nat} {news n2 : List (Addr × Obj)} {s c : Addr} {q : SK} {kid : Kid} {R1 R2 : List (Addr × Obj)} {ob ob' : Obj} (L : LI P T hh news s q kid (R1 ++ (c, ob) :: R2)) (k : Ch news [c] n2 [c]) (hm : (c, ob') ∈ n2) : LI P T hh n2 s q kid (R1 ++ (c, ob') :: R2) := by
  have nd := L.nd
  rw [List.map_append, List.map_cons] at nd
  have d2 := List.nodup_append.mp nd
  refine ⟨L.B.ch k fun b hb e => L.off (c, ob) (by simp) (by rw [List.mem_singleton.mp e] at hb; exact hb), fun p hp => ?_, fun p hp => ?_, by simpa using L.nd⟩
  · rcases List.mem_append.mp hp with hp | hp
    · exact k.keep (L.sub p (by simp [hp])) fun e => d2.2.2 p.1 (List.mem_map_of_mem hp) c (by simp) (List.mem_singleton.mp e)
    · rcases List.mem_cons.mp hp with rfl | hp
      · exact hm
      · exact k.keep (L.sub p (by simp [hp])) fun e => (List.nodup_cons.mp d2.2.1).1 ((List.mem_singleton.mp e : p.1 = c) ▸ (List.mem_map_of_mem (f := (·.1)) hp))
  · rcases List.mem_append.mp hp with hp | hp
    · exact L.off p (by simp [hp])
    · rcases List.mem_cons.mp hp with rfl | hp
      · exact L.off (c, ob) (by simp)
      · exact L.off p (by simp [hp])
/-- the ledger's list exchanged for a new one -/
theorem LI.list {P : Params} {T hh : Nat} {n1 n2 : List (Addr × Obj)} {s D' : Addr} {q : SK} {kid : Kid} {p1 p2 p3 p4 : Addr × Obj} {X : List (Addr × Obj)} {ob' : Obj} (L : LI P T hh n1 s q kid ([p1, p2, p3, p4] ++ X)) (k : ∀ p ∈ n1, p ∈ n2) (hD : (D', ob') ∈ n2) (hn : ∀ p ∈ n1, p.1 ≠ D') : LI P T hh n2 s q kid ([p1, p2, p3, (D', ob')] ++ X) := by
  have L2 := L.push k hD hn
  refine L2.less (fun p hp => ?_) ?_
  · simp only [List.cons_append, List.nil_append, List.mem_cons, List.mem_append, List.not_mem_nil, or_false] at hp ⊢
    rcases hp with h | h | h | h | h <;> simp [h]
  · have nd := L2.nd
    have p : ([p1, p2, p3, (D', ob')] ++ X).Perm ([p1, p2, p3] ++ X ++ [(D', ob')]) := by
      show (([p1, p2, p3] ++ [(D', ob')]) ++ X).Perm _
      rw [List.append_assoc, List.append_assoc]
      exact List.Perm.append_left _ List.perm_append_comm
    refine (List.Perm.nodup_iff (p.map _)).mpr ?_
    refine List.Sublist.nodup (List.Sublist.map _ ?_) nd
    refine List.Sublist.append ?_ (List.Sublist.refl _)
    show ([p1, p2, p3] ++ X).Sublist ([p1, p2, p3] ++ (p4 :: X))
    exact List.Sublist.append (List.Sublist.refl _) (List.sublist_cons_self _ _)
end
section
variable {P : Params} {T i j hh hh' n n' : Nat} {n1 n2 : List (Addr × Obj)} {ct cv cg s D D' I : Addr} {q q' : SK} {kid kid' : Kid} {ot ov og it it' ob : Obj} {vs vs' : List Value} {ns ns' : List Int} {X : List (Addr × Obj)} {f1 f2 : List Addr}
theorem LK.le (K : LK P T i n1 ct cv cg s q kid hh ot ov og D n vs ns X) (h : i ≤ j) : LK P T j n1 ct cv cg s q kid hh ot ov og D n vs ns X := ⟨K.L, K.hI, K.ht, K.hv, K.hg, Nat.le_trans K.hh h, Nat.le_trans K.hn h, K.hr⟩
theorem LK.mono (K : LK P T i n1 ct cv cg s q kid hh ot ov og D n vs ns X) (k : ∀ p ∈ n1, p ∈ n2) : LK P T i n2 ct cv cg s q kid hh ot ov og D n vs ns X := ⟨K.L.mono k, K.hI, K.ht, K.hv, K.hg, K.hh, K.hn, K.hr⟩
theorem LK.ch (K : LK P T i n1 ct cv cg s q kid hh ot ov og D n vs ns X) (k : Ch n1 f1 n2 f2) (h : ∀ b ∈ f1, ∀ x, (b, x) ∉ n1) : LK P T i n2 ct cv cg s q kid hh ot ov og D n vs ns X := by
  refine ⟨K.L.ch k (fun b hb hf => ?_) fun p hp hf => ?_, K.hI, K.ht, K.hv, K.hg, K.hh, K.hn, K.hr⟩
  · obtain ⟨x, hx⟩ := K.L.B.has b hb
    exact h b hf x hx
  · exact h _ hf p.2 (K.L.sub p hp)
theorem LK.push (K : LK P T i n1 ct cv cg s q kid hh ot ov og D n vs ns X) (k : ∀ p ∈ n1, p ∈ n2) (hD : (I, it) ∈ n2) (hn : ∀ p ∈ n1, p.1 ≠ I) : LK P T i n2 ct cv cg s q kid hh ot ov og D n vs ns (X ++ [(I, it)]) := ⟨by rw [← List.append_assoc]; exact K.L.push k hD hn, K.hI, K.ht, K.hv, K.hg, K.hh, K.hn, K.hr⟩
theorem LK.iter (K : LK P T i n1 ct cv cg s q kid hh ot ov og D n vs ns ((I, it) :: X)) (k : Ch n1 [I] n2 [I]) (hI : (I, it') ∈ n2) : LK P T i n2 ct cv cg s q kid hh ot ov og D n vs ns ((I, it') :: X) := ⟨K.L.setX k hI, K.hI, K.ht, K.hv, K.hg, K.hh, K.hn, K.hr⟩
theorem LK.out (K : LK P T i n1 ct cv cg s q kid hh ot ov og D n vs ns ((I, it) :: X)) (k : Ch n1 [I] n2 []) : LK P T i n2 ct cv cg s q kid hh ot ov og D n vs ns X := by
  have nd := K.L.nd
  rw [List.map_append, List.map_cons] at nd
  have d2 := List.nodup_append.mp nd
  have L1 := K.L.less (R' := [(ct, ot), (cv, ov), (cg, og), (D, listOf vs.toArray n)] ++ X) (fun p hp => by
    rcases List.mem_append.mp hp with hp | hp
    · exact List.mem_append_left _ hp
    · exact List.mem_append_right _ (.tail _ hp)) (List.Sublist.nodup (List.Sublist.map _ (List.Sublist.append (List.Sublist.refl _) (List.sublist_cons_self _ _))) K.L.nd)
  refine ⟨L1.ch k (fun b hb e => K.L.off (I, it) (by simp) (by rw [List.mem_singleton.mp e] at hb; exact hb)) fun p hp e => ?_, K.hI, K.ht, K.hv, K.hg, K.hh, K.hn, K.hr⟩
  have e : p.1 = I := List.mem_singleton.mp e
  rcases List.mem_append.mp hp with hp | hp
  · exact d2.2.2 p.1 (List.mem_map_of_mem hp) I (by simp) e
  · exact (List.nodup_cons.mp d2.2.1).1 (e ▸ (List.mem_map_of_mem (f := (·.1)) hp))
theorem LK.tree (K : LK P T i n1 ct cv cg s q kid hh ot ov og D n vs ns X) (B' : BSet P T hh' n2 s q' kid') (k : Ch n1 (q.fp kid) n2 (q'.fp kid')) (h : hh' ≤ j) (hij : i ≤ j) : LK P T j n2 ct cv cg s q' kid' hh' ot ov og D n vs ns X := ⟨K.L.tree B' k, K.hI, K.ht, K.hv, K.hg, h, Nat.le_trans K.hn hij, K.hr⟩
theorem LK.value (K : LK P T i n1 ct cv cg s q kid hh ot ov og D n vs ns X) (k : Ch n1 [cv] n2 [cv]) (hm : (cv, ob) ∈ n2) {x : Option Value} (hx : ob.data = .cell x) : LK P T i n2 ct cv cg s q kid hh ot ob og D n vs ns X := ⟨K.L.setX (R1 := [(ct, ot)]) k hm, K.hI, K.ht, ⟨_, hx⟩, K.hg, K.hh, K.hn, K.hr⟩
theorem LK.gone (K : LK P T i n1 ct cv cg s q kid hh ot ov og D n vs ns X) (k : Ch n1 [cg] n2 [cg]) (hm : (cg, ob) ∈ n2) {x : Option Value} (hx : ob.data = .cell x) : LK P T i n2 ct cv cg s q kid hh ot ov ob D n vs ns X := ⟨K.L.setX (R1 := [(ct, ot), (cv, ov)]) k hm, K.hI, K.ht, K.hv, ⟨_, hx⟩, K.hh, K.hn, K.hr⟩
theorem LK.list (K : LK P T i n1 ct cv cg s q kid hh ot ov og D n vs ns X) (k : ∀ p ∈ n1, p ∈ n2) (hD : (D', listOf vs'.toArray n') ∈ n2) (hn : ∀ p ∈ n1, p.1 ≠ D') (hI : IntsAre vs' ns') (hl : ns'.length ≤ i) (hr : ∀ k ∈ ns', Rng k) : LK P T i n2 ct cv cg s q kid hh ot ov og D' n' vs' ns' X := ⟨K.L.list k hD hn, hI, K.ht, K.hv, K.hg, K.hh, hl, hr⟩
end

-- ZB
section
variable {w : World} {f : Fm} {m : PySem.Str → Option Value} {news : List (Addr × Obj)} {h : Heap} {E : Value → Shared → Prop}
  {g : Array GenState} {d : Drawn} {tk : Nat} {o : OsState} {Q : Value → Shared → Prop}
variable {x : PySem.Str} {px : Pos} {body : List Stmt} {QF : Flow → Shared → Prop}
/-- one turn of a loop of the law -/
abbrev Turn (w : World) (f : Fm) (g : Array GenState) (d : Drawn) (o : OsState) (QF : Flow → Shared → Prop) (body : List Stmt) (x : PySem.Str) (v : Value) (J : (PySem.Str → Option Value) → List (Addr × Obj) → Prop) (s : Shared) : Prop :=
  wpAny (MM w) (AR f) (storeName f.env x v) (fun _ s₂ => wpC (MM w) (AR f) (execs body f.env) (fun fl s' => match fl with
    | .next | .cont => ∃ h' tk' m' news', s' = ⟨h', g, d, tk', o⟩ ∧ Cx w f m' news' h' ∧ J m' news'
    | .brk => False
    | .ret v => QF (.ret v) s') (fun _ _ => False) s₂) (fun _ _ => False) s
theorem for_range {N : Nat} {t : Tok} (C : Cx w f m news h) (hN : N ≤ 1000) (J : Addr → Obj → Nat → (PySem.Str → Option Value) → List (Addr × Obj) → Prop)
    (h0 : ∀ I it, (∀ p ∈ news, p.1 ≠ I) → J I it 0 m ((I, it) :: news))
    (turn : ∀ I i t m₁ news₀ news₁ h₁ tk₁ it₀ it₁, i < N → J I it₀ i m₁ news₀ → Cx w f m₁ news₁ h₁ → Ch news₀ [I] news₁ [I] → (I, it₁) ∈ news₁ →
      Turn w f g d o QF body x (.int (i : Nat) t) (fun m' news' => (I, it₁) ∈ news' ∧ J I it₁ (i + 1) m' news') ⟨h₁, g, d, tk₁, o⟩)
    (done : ∀ I it₀ h' tk' m' news₀ news', J I it₀ N m' news₀ → Cx w f m' news' h' → Ch news₀ [I] news' [] → QF .next ⟨h', g, d, tk', o⟩) :
    wpAny (MM w) (AR f) (call (.type "range") [.int N t]) (fun xv s₁ => wpAny (MM w) (AR f) (pyIter xv) (fun it s₂ => codeC (MM w) (AR f) (.forLoop (.Name x px) it body [] f.env) (fun r s' => match r with | .ok fl => QF fl s' | .error e => False) s₂) (fun _ _ => False) s₁) (fun _ _ => False) ⟨h, g, d, tk, o⟩ := by
  refine call_range_1 ?_
  refine wpAny_pyIter_range (IsRange.new ..) (small_one (by omega) (by omega) (by omega) (by omega)) ?_
  have e1 : Builtin.Range.rangeSize 0 (N : Int) 1 = (N : Int) := by rw [rangeSize_one]; split <;> omega
  obtain ⟨C1, l1⟩ := C.newer { cls := .type "range", data := .fields #[.int 0 tk, .int N t, .int 1 (tk + 1)] }
  obtain ⟨C2, l2⟩ := C1.newer { cls := .type "range_iterator", data := .fields #[rawInt 0, rawInt (Builtin.Range.rangeSize 0 N 1), rawInt 1] }
  have C3 := C2.sub (news' := ((h.push { cls := .type "range", data := .fields #[.int 0 tk, .int N t, .int 1 (tk + 1)] }).objs.size, _) :: news) fun p hp => by
    rcases List.mem_cons.mp hp with rfl | hp
    · exact .head _
    · exact .tail _ (.tail _ hp)
  refine c_for (LCg.range_walks rfl 0 N) [] (fun i h st => ⟨_, st, rfl⟩) (fun b hb => .inl (List.mem_singleton.mp hb)) (fun _ h => nomatch h) (fun i m' n' => ∃ it, (h.push { cls := .type "range", data := .fields #[.int 0 tk, .int N t, .int 1 (tk + 1)] }).objs.size = (h.push { cls := .type "range", data := .fields #[.int 0 tk, .int N t, .int 1 (tk + 1)] }).objs.size ∧ J (h.push { cls := .type "range", data := .fields #[.int 0 tk, .int N t, .int 1 (tk + 1)] }).objs.size it i m' n') C3 (.head _) rfl (fun _ h => nomatch h) ?_ ⟨_, rfl, h0 _ _ fun p hp => Nat.ne_of_lt (l2 p (.tail _ hp))⟩ ?_ ?_
  · have := C2.get (.head _)
    rw [e1] at this
    show Heap.get? _ _ = _
    rw [Heap.get?_push_size _ rfl, e1]
    simp
  · rintro i v m₁ news₀ news₁ h₁ tk₁ it₁ hi ⟨u, rfl⟩ ⟨it, _, hJ⟩ C' k hI _
    rw [Int.zero_add]
    refine wpAny_mono (turn _ i u m₁ news₀ news₁ h₁ tk₁ it it₁ hi hJ C' k hI) (fun _ s2 z => wpC_mono z (fun fl s' y => ?_) fun _ _ y => y) fun _ _ z => z
    cases fl with
    | next => obtain ⟨a, b, c, e, r, q, p1, p2⟩ := y; exact ⟨a, b, c, e, r, q, p1, (fun _ h => nomatch h), _, rfl, p2⟩
    | cont => obtain ⟨a, b, c, e, r, q, p1, p2⟩ := y; exact ⟨a, b, c, e, r, q, p1, (fun _ h => nomatch h), _, rfl, p2⟩
    | brk => exact y
    | ret v => exact y
  · rintro h' tk' m' news₀ news' ⟨it, _, hJ⟩ C' k
    exact done _ it h' tk' m' news₀ news' hJ C' k
theorem for_list {l n : Nat} {vs : List Value} (C : Cx w f m news h) (hm : (l, listOf vs.toArray n) ∈ news) (J : Addr → Obj → Nat → (PySem.Str → Option Value) → List (Addr × Obj) → Prop)
    (h0 : ∀ I it, (∀ p ∈ news, p.1 ≠ I) → J I it 0 m ((I, it) :: news))
    (turn : ∀ I i v m₁ news₀ news₁ h₁ tk₁ it₀ it₁, vs[i]? = some v → J I it₀ i m₁ news₀ → Cx w f m₁ news₁ h₁ → Ch news₀ [I] news₁ [I] → (I, it₁) ∈ news₁ → (l, listOf vs.toArray n) ∈ news₁ → l ≠ I →
      Turn w f g d o QF body x v (fun m' news' => (I, it₁) ∈ news' ∧ (l, listOf vs.toArray n) ∈ news' ∧ J I it₁ (i + 1) m' news') ⟨h₁, g, d, tk₁, o⟩)
    (done : ∀ I it₀ h' tk' m' news₀ news', J I it₀ vs.length m' news₀ → Cx w f m' news' h' → Ch news₀ [I] news' [] → QF .next ⟨h', g, d, tk', o⟩) :
    wpAny (MM w) (AR f) (pyIter (.ref l)) (fun it s₂ => codeC (MM w) (AR f) (.forLoop (.Name x px) it body [] f.env) (fun r s' => match r with | .ok fl => QF fl s' | .error e => False) s₂) (fun _ _ => False) ⟨h, g, d, tk, o⟩ := by
  refine wpAny_pyIter_list (C.isList hm) ?_
  obtain ⟨C1, l1⟩ := C.newer { cls := .type "list_iterator", data := .fields #[.ref l, .int 0 0] }
  have hne : l ≠ h.objs.size := Nat.ne_of_lt (l1 _ hm)
  refine c_for (Walks.list (A := AR f) rfl h.objs.size l hne vs.toArray) [(l, listOf vs.toArray n)] (fun i h st => ?_) (fun b hb => ?_) (fun p hp => ?_) (fun i m' n' => ∃ it, J h.objs.size it i m' n') C1 (.head _) rfl (fun p hp => ?_) ?_ ⟨_, h0 _ _ fun p hp => Nat.ne_of_lt (l1 p hp)⟩ ?_ ?_
  · obtain ⟨ob, e, _, e2⟩ := st.1
    exact ⟨ob, e, by unfold frz; rw [e2]⟩
  · simp only [List.mem_cons, List.not_mem_nil, or_false] at hb
    rcases hb with rfl | rfl
    · exact .inl rfl
    · exact .inr ⟨_, List.mem_singleton.mpr rfl⟩
  · rw [List.mem_singleton.mp hp]; exact hne
  · rw [List.mem_singleton.mp hp]; exact .tail _ hm
  · exact ⟨⟨_, Heap.get?_push_size _ rfl, rfl, rfl⟩, C1.isList (.tail _ hm)⟩
  · rintro i v m₁ news₀ news₁ h₁ tk₁ it₁ hi hP ⟨it, hJ⟩ C' k hI hk
    refine wpAny_mono (turn _ i v m₁ news₀ news₁ h₁ tk₁ it it₁ (by simpa using hP) hJ C' k hI (hk _ (List.mem_singleton.mpr rfl)) hne) (fun _ s2 z => wpC_mono z (fun fl s' y => ?_) fun _ _ y => y) fun _ _ z => z
    cases fl with
    | next => obtain ⟨a, b, c, e, r, q, p1, p2, p3⟩ := y; exact ⟨a, b, c, e, r, q, p1, (fun p hp => by rw [List.mem_singleton.mp hp]; exact p2), _, p3⟩
    | cont => obtain ⟨a, b, c, e, r, q, p1, p2, p3⟩ := y; exact ⟨a, b, c, e, r, q, p1, (fun p hp => by rw [List.mem_singleton.mp hp]; exact p2), _, p3⟩
    | brk => exact y
    | ret v => exact y
  · rintro h' tk' m' news₀ news' ⟨it, hJ⟩ C' k
    rw [List.size_toArray] at hJ
    exact done _ it h' tk' m' news₀ news' hJ C' k
end
section
variable {w : World} {f : Fm} {m : PySem.Str → Option Value} {news : List (Addr × Obj)} {h : Heap} {E : Value → Shared → Prop}
  {g : Array GenState} {d : Drawn} {tk : Nat} {o : OsState} {Q : Value → Shared → Prop}
theorem l_cutM {a n : Nat} {vs : List Value} {ms : List Int} {value slice : Expr} {lo hi : Option Int} {vl vu : Value} (C : Cx w f m news h) (hm : (a, listOf vs.toArray n) ∈ news) (hI : IntsAre (slicePick vs.toArray lo hi none).toList ms) (pl : IsPart vl lo) (pu : IsPart vu hi) (hz : vs.length ≤ 1000)
    (k : ∀ D ws h', Cx w f m ((D, listOf (List.toArray ws) 0) :: news) h' → (∀ p ∈ news, p.1 < D) → IntsAre ws ms → Q (.ref D) ⟨h', g, d, tk, o⟩)
    (hs : ∀ sl, subscripted slice false (.ref a) (.ref sl) = operate [.ref sl, .ref a] (getItem (.ref a) (.ref sl))) {A : Around} :
    wpAny (MM w) A (subscriptTail value slice (.ref a) (.ref h.objs.size)) Q E ⟨h.push { cls := .type "slice", data := .fields #[vl, vu, .none] }, g, d, tk, o⟩ :=
  slice_of C hm hz pl pu Array.toArray_toList.symm (fun D h' C' l => k D _ h' C' l hI) hs
end
section
variable {α : Type} {M : Model} {A : Around} {E : Value → Shared → Prop} {s : Shared} {env : Env}
theorem cs_isTrue_Compare1 {l r : Expr} {op : CmpOp} {pos : Pos} {whole : Sem Value} {Q : Bool → Shared → Prop}
    (h : wpC M A (eval l env) (fun a s₁ => wpAny M A (eval r env) (fun b s₂ => wpAny M A (compareOp op a b) (fun c s₃ => wpAny M A (truthy c) Q E s₃) E s₂) E s₁) E s)
    (hm : behindInMarks op r = false) : wpC M A (isTrue (.Compare l [op] [r] pos) env whole) Q E s := fun Γ p hΓ q1 q2 => by
  simp only [isTrue_Compare1, markedBehindIn_of_false hm, Sem.wp_bind', Sem.wp_holding, Sem.wp_cmd_standAt, Sem.wp_operate]
  exact Sem.wp_mono M Γ _ (fun a p₁ s₁ h₁ => Sem.wp_mono M Γ _ (fun b _ s₂ h₂ => Sem.wp_mono M Γ _ (fun c p₃ s₃ h₃ => h₃ Γ p₃ hΓ)
    (fun _ _ _ h' => h') _ _ (h₂ Γ _ hΓ)) (fun _ _ _ h' => h') _ _ (h₁ Γ p₁ hΓ)) (fun _ _ _ h' => h') _ _ (h Γ p hΓ q1 q2)
end
section
variable {P : Params} {T i j hh hh' n n' : Nat} {n1 n2 : List (Addr × Obj)} {ct cv cg s D D' I : Addr} {q q' : SK} {kid kid' : Kid} {ot ov og ob : Obj} {vs vs' : List Value} {ns ns' : List Int} {X : List (Addr × Obj)} {p1 p2 : Addr × Obj}
theorem LK.drop (K : LK P T i n1 ct cv cg s q kid hh ot ov og D n vs ns (p1 :: X)) : LK P T i n1 ct cv cg s q kid hh ot ov og D n vs ns X := by
  refine ⟨K.L.less (fun p hp => ?_) (List.Sublist.nodup (List.Sublist.map _ (List.Sublist.append (List.Sublist.refl _) (List.sublist_cons_self _ _))) K.L.nd), K.hI, K.ht, K.hv, K.hg, K.hh, K.hn, K.hr⟩
  rcases List.mem_append.mp hp with hp | hp
  · exact List.mem_append_left _ hp
  · exact List.mem_append_right _ (.tail _ hp)
theorem LK.swap (K : LK P T i n1 ct cv cg s q kid hh ot ov og D n vs ns [p1, p2]) : LK P T i n1 ct cv cg s q kid hh ot ov og D n vs ns [p2, p1] := by
  refine ⟨K.L.less (fun p hp => ?_) ?_, K.hI, K.ht, K.hv, K.hg, K.hh, K.hn, K.hr⟩
  · rcases List.mem_append.mp hp with hp | hp
    · exact List.mem_append_left _ hp
    · refine List.mem_append_right _ ?_
      simp only [List.mem_cons, List.not_mem_nil, or_false] at hp ⊢
      rcases hp with h | h
      · exact .inr h
      · exact .inl h
  · refine (List.Perm.nodup_iff (List.Perm.map _ ?_)).mpr K.L.nd
    exact List.Perm.append_left _ (List.Perm.swap _ _ _)
end
/-- the number that a turn of the law's second loop takes -/
theorem pickV (y : Int) {j : Int} (h0 : 0 ≤ j) (h6 : j < 6) (t0 t1 t2 t3 t4 t5 : Tok) : ∃ V t, [Value.int (y.fmod 70) t0, .int (50 + y.fmod 30) t1, .int (2 ^ (14 : Int).toNat - 10 + y.fmod 20) t2, .int (2 ^ (30 : Int).toNat - 10 + y.fmod 20) t3, .int (y.fmod (2 ^ (62 : Int).toNat)) t4, .int (2 ^ (62 : Int).toNat - 1 - y.fmod 100) t5][j.toNat]? = some (.int V t) ∧ Rng V := by
  have m : ∀ k : Int, 0 < k → 0 ≤ y.fmod k ∧ y.fmod k < k := fun k hk => ⟨Int.fmod_nonneg_of_pos _ hk, Int.fmod_lt_of_pos _ hk⟩
  have e14 : (2 : Int) ^ (14 : Int).toNat = 16384 := by decide
  have e30 : (2 : Int) ^ (30 : Int).toNat = 1073741824 := by decide
  have e62 : (2 : Int) ^ (62 : Int).toNat = 4611686018427387904 := by decide
  rw [e14, e30, e62]
  have hj : j = 0 ∨ j = 1 ∨ j = 2 ∨ j = 3 ∨ j = 4 ∨ j = 5 := by omega
  rcases hj with rfl | rfl | rfl | rfl | rfl | rfl
  · exact ⟨_, _, rfl, by have := m 70 (by decide); constructor <;> omega⟩
  · exact ⟨_, _, rfl, by have := m 30 (by decide); constructor <;> omega⟩
  · exact ⟨_, _, rfl, by have := m 20 (by decide); constructor <;> omega⟩
  · exact ⟨_, _, rfl, by have := m 20 (by decide); constructor <;> omega⟩
  · exact ⟨_, _, rfl, by have := m 4611686018427387904 (by decide); constructor <;> omega⟩
  · exact ⟨_, _, rfl, by have := m 100 (by decide); constructor <;> omega⟩

-- ZC
-- THE LAW'S CURSOR
section
variable {P : Params} {cr c s x : Addr} {T H hh n i : Nat} {n1 n2 : List (Addr × Obj)} {f1 f2 FP : List Addr} {q : SK} {uq uq' : UK} {kid root : Kid} {r : List Int} {ct cv cg D D' I : Addr} {ot ov og it it' ob ob' : Obj} {vs : List Value} {ns : List Int} {X X1 X2 : List (Addr × Obj)} {j : Int}
theorem CurUp.ch (U : CurUp P cr T H n1 FP c uq s root r) (a : Ch n1 f1 n2 f2) (h1 : uq.dc ∉ f1) (h2 : uq.pl ∉ f1) (hd : ∀ b ∈ FP, b ∉ f1) : CurUp P cr T H n2 FP c uq s root r := by
  obtain ⟨node, i, rc, inc, ts, pk, pr, U, z⟩ := U
  refine ⟨node, i, rc, inc, ts, pk, pr, U.ch a h1 h2, ?_⟩
  rcases z with z | ⟨hh, k, nq, es, kids, n, e1, e2, e3, z⟩
  · exact .inl z
  · exact .inr ⟨hh, k, nq, es, kids, n, e1, e2, e3, z.ch a hd⟩
theorem CurDn.ch (U : CurDn P cr T H n1 FP c uq s root r) (a : Ch n1 f1 n2 f2) (h1 : uq.dc ∉ f1) (h2 : uq.pl ∉ f1) (hd : ∀ b ∈ FP, b ∉ f1) : CurDn P cr T H n2 FP c uq s root r := by
  obtain ⟨node, i, rc, inc, ts, pk, pr, U, z⟩ := U
  refine ⟨node, i, rc, inc, ts, pk, pr, U.ch a h1 h2, ?_⟩
  rcases z with z | ⟨hh, k, nq, es, kids, n, e1, e2, e3, z⟩
  · exact .inl z
  · exact .inr ⟨hh, k, nq, es, kids, n, e1, e2, e3, z.ch a hd⟩
theorem CurOut.ch (U : CurOut P n1 c uq s j) (a : Ch n1 f1 n2 f2) (h1 : uq.dc ∉ f1) (h2 : uq.pl ∉ f1) : CurOut P n2 c uq s j := by
  obtain ⟨inc, pk, pr, U⟩ := U
  exact ⟨inc, pk, pr, U.ch a h1 h2⟩
/-- somewhere -/
def CurAny (P : Params) (news : List (Addr × Obj)) (c : Addr) (q : UK) (s : Addr) : Prop := ∃ node i rc inc ts pk pr, CurIn P news c q s node i rc inc ts pk pr
theorem CurUp.any (U : CurUp P cr T H n1 FP c uq s root r) : CurAny P n1 c uq s := by obtain ⟨node, i, rc, inc, ts, pk, pr, U, z⟩ := U; exact ⟨_, _, _, _, _, _, _, U⟩
theorem CurDn.any (U : CurDn P cr T H n1 FP c uq s root r) : CurAny P n1 c uq s := by obtain ⟨node, i, rc, inc, ts, pk, pr, U, z⟩ := U; exact ⟨_, _, _, _, _, _, _, U⟩
theorem CurOut.any (U : CurOut P n1 c uq s j) : CurAny P n1 c uq s := by obtain ⟨inc, pk, pr, U⟩ := U; exact ⟨_, _, _, _, _, _, _, U⟩
theorem CurOut.up (U : CurOut P n1 c uq s 0) : CurUp P cr T H n1 FP c uq s root root.ks := by obtain ⟨inc, pk, pr, U⟩ := U; exact ⟨_, _, _, _, _, _, _, U, .inl ⟨rfl, rfl, rfl, rfl, rfl⟩⟩
theorem CurOut.dn (U : CurOut P n1 c uq s 1) : CurDn P cr T H n1 FP c uq s root root.ks.reverse := by obtain ⟨inc, pk, pr, U⟩ := U; exact ⟨_, _, _, _, _, _, _, U, .inl ⟨rfl, rfl, rfl, rfl, rfl⟩⟩
theorem CurAny.has (U : CurAny P n1 c uq s) : ∀ b ∈ uq.fp, ∃ y, (b, y) ∈ n1 := by
  obtain ⟨_, _, _, _, _, _, _, U⟩ := U
  intro b hb
  simp only [UK.fp, List.mem_cons, List.not_mem_nil, or_false] at hb
  rcases hb with rfl | rfl
  · exact ⟨_, U.hd⟩
  · exact ⟨_, U.hp⟩
structure CK (P : Params) (T : Nat) (news : List (Addr × Obj)) (ct cv cg s : Addr) (q : SK) (kid : Kid) (hh : Nat) (ot ov og : Obj) (D n : Nat) (vs : List Value) (uq : UK) (X : List (Addr × Obj)) : Prop where
  K : LK P T 30 news ct cv cg s q kid hh ot ov og D n vs kid.ks X
  f1 : ∀ b ∈ q.fp kid, b ∉ uq.fp
  f2 : ∀ p ∈ [(ct, ot), (cv, ov), (cg, og), (D, listOf vs.toArray n)] ++ X, p.1 ∉ uq.fp
theorem CK.step (K : CK P T n1 ct cv cg s q kid hh ot ov og D n vs uq X) (k : Ch n1 uq.fp n2 uq'.fp) : CK P T n2 ct cv cg s q kid hh ot ov og D n vs uq' X := by
  have L := K.K.L
  refine ⟨⟨L.ch k K.f1 K.f2, K.K.hI, K.K.ht, K.K.hv, K.K.hg, K.K.hh, K.K.hn, K.K.hr⟩, fun b hb hu => ?_, fun p hp hu => ?_⟩
  · rcases k.new b hu with z | z
    · exact K.f1 b hb z
    · obtain ⟨y, hy⟩ := L.B.has b hb; exact z y hy
  · rcases k.new _ hu with z | z
    · exact K.f2 p hp z
    · exact z p.2 (L.sub p hp)
theorem CK.mono (K : CK P T n1 ct cv cg s q kid hh ot ov og D n vs uq X) (k : ∀ p ∈ n1, p ∈ n2) : CK P T n2 ct cv cg s q kid hh ot ov og D n vs uq X := ⟨K.K.mono k, K.f1, K.f2⟩
theorem CK.push (K : CK P T n1 ct cv cg s q kid hh ot ov og D n vs uq X) (U : ∀ b ∈ uq.fp, ∃ y, (b, y) ∈ n1) (k : ∀ p ∈ n1, p ∈ n2) (hD : (I, it) ∈ n2) (hn : ∀ p ∈ n1, p.1 ≠ I) : CK P T n2 ct cv cg s q kid hh ot ov og D n vs uq ((I, it) :: X) := by
  have K2 := K.K.push k hD hn
  refine ⟨⟨K2.L.less (fun p hp => ?_) ?_, K.K.hI, K.K.ht, K.K.hv, K.K.hg, K.K.hh, K.K.hn, K.K.hr⟩, K.f1, fun p hp => ?_⟩
  · simp only [List.mem_append, List.mem_cons, List.not_mem_nil, or_false] at hp ⊢
    rcases hp with h | h | h
    · exact .inl h
    · exact .inr (.inr h)
    · exact .inr (.inl h)
  · refine (List.Perm.nodup_iff (List.Perm.map _ (List.Perm.append_left _ ?_))).mpr K2.L.nd
    exact (List.perm_append_comm (l₁ := [(I, it)]) (l₂ := X))
  · rcases List.mem_append.mp hp with hp | hp
    · exact K.f2 p (List.mem_append_left _ hp)
    · rcases List.mem_cons.mp hp with rfl | hp
      · intro hu
        obtain ⟨y, hy⟩ := U _ hu
        exact hn _ hy rfl
      · exact K.f2 p (List.mem_append_right _ hp)
theorem CK.set (K : CK P T n1 ct cv cg s q kid hh ot ov og D n vs uq (X1 ++ (I, ob) :: X2)) (k : Ch n1 [I] n2 [I]) (hm : (I, ob') ∈ n2) : CK P T n2 ct cv cg s q kid hh ot ov og D n vs uq (X1 ++ (I, ob') :: X2) := by
  have L := K.K.L
  rw [← List.append_assoc] at L
  have L2 := L.setX k hm
  rw [List.append_assoc] at L2
  refine ⟨⟨L2, K.K.hI, K.K.ht, K.K.hv, K.K.hg, K.K.hh, K.K.hn, K.K.hr⟩, K.f1, fun p hp => ?_⟩
  rw [← List.append_assoc] at hp
  rcases List.mem_append.mp hp with hp | hp
  · exact K.f2 p (by rw [← List.append_assoc]; exact List.mem_append_left _ hp)
  · rcases List.mem_cons.mp hp with rfl | hp
    · exact K.f2 (I, ob) (by rw [← List.append_assoc]; exact List.mem_append_right _ (.head _))
    · exact K.f2 p (by rw [← List.append_assoc]; exact List.mem_append_right _ (.tail _ hp))
theorem CK.out (K : CK P T n1 ct cv cg s q kid hh ot ov og D n vs uq ((I, it) :: X)) (k : Ch n1 [I] n2 []) : CK P T n2 ct cv cg s q kid hh ot ov og D n vs uq X :=
  ⟨K.K.out k, K.f1, fun p hp => K.f2 p (by
    rcases List.mem_append.mp hp with hp | hp
    · exact List.mem_append_left _ hp
    · exact List.mem_append_right _ (.tail _ hp))⟩
theorem CK.off1 (K : CK P T n1 ct cv cg s q kid hh ot ov og D n vs uq X) {p : Addr × Obj} (hp : p ∈ X) : uq.dc ∉ [p.1] ∧ uq.pl ∉ [p.1] ∧ ∀ b ∈ kid.fp, b ∉ [p.1] := by
  have z := K.f2 p (List.mem_append_right _ hp)
  refine ⟨fun e => z (by rw [← List.mem_singleton.mp e]; simp), fun e => z (by rw [← List.mem_singleton.mp e]; simp), fun b hb e => ?_⟩
  exact K.K.L.off p (List.mem_append_right _ hp) (by rw [← List.mem_singleton.mp e]; simp [hb])
def lc (D Due Told Back x : Addr) (m0 : PySem.Str → Option Value) : PySem.Str → Option Value := fun y => if y = "held" then some (.ref D) else if y = "due" then some (.ref Due) else if y = "told" then some (.ref Told) else if y = "back" then some (.ref Back) else if y = "cursor" then some (.ref x) else m0 y
theorem lc_eq {D Due Told Back x : Addr} {m : PySem.Str → Option Value} (h1 : m "held" = some (.ref D)) (h2 : m "due" = some (.ref Due)) (h3 : m "told" = some (.ref Told)) (h4 : m "back" = some (.ref Back)) (h5 : m "cursor" = some (.ref x)) : m = lc D Due Told Back x m := by
  unfold lc
  funext y
  by_cases q1 : y = "held"
  · rw [if_pos q1, q1, h1]
  rw [if_neg q1]
  by_cases q2 : y = "due"
  · rw [if_pos q2, q2, h2]
  rw [if_neg q2]
  by_cases q3 : y = "told"
  · rw [if_pos q3, q3, h3]
  rw [if_neg q3]
  by_cases q4 : y = "back"
  · rw [if_pos q4, q4, h4]
  rw [if_neg q4]
  by_cases q5 : y = "cursor"
  · rw [if_pos q5, q5, h5]
  rw [if_neg q5]
end
section
variable {w : World} {f : Fm} {m : PySem.Str → Option Value} {news : List (Addr × Obj)} {h : Heap} {E : Value → Shared → Prop}
  {g : Array GenState} {d : Drawn} {tk : Nat} {o : OsState} {Q : Value → Shared → Prop}
theorem s_unpack3 {env : Env} {a b c : PySem.Str} {p1 p2 p3 p4 : Pos} {kk : Nat} {T : Addr} {va vb vc : Value} {A : Around} {QU : Unit → Shared → Prop} (C : Cx w f m news h) (hm : (T, tupOf [va, vb, vc]) ∈ news) (hA : A.handled = none)
    (k : ∀ h', Cx w f m news h' → wpAny (MM w) A (storeName env a va) (fun _ s₁ => wpAny (MM w) A (storeName env b vb) (fun _ s₂ => wpAny (MM w) A (storeName env c vc) (fun _ s₃ => QU () s₃) E s₂) E s₁) E ⟨h', g, d, tk, o⟩) : wpAny (MM w) A (assign (.Tuple [.Name a p1, .Name b p2, .Name c p3] kk p4) env (.ref T)) QU E ⟨h, g, d, tk, o⟩ :=
  s_unpack C hm hA rfl rfl fun h' C' => assignInOrder_cons (assign_Name (wpAny_mono (k h' C') (fun _ s₁ z => assignInOrder_cons (assign_Name (wpAny_mono z (fun _ s₂ y => assignInOrder_cons (assign_Name (wpAny_mono y (fun _ s₃ x => assignInOrder_nil x) fun _ _ x => x))) fun _ _ x => x))) fun _ _ x => x))
end
local macro_rules | `(tactic| walk_at "m.s") => `(tactic| ((with_reducible refine' s_unpack3 ?C ?m ?hA ?_); (case C => walk_at "m.C"); (case m => walk_at "m.mem"); (case hA => exact rfl); intro _ _))
section
variable {w : World} {f : Fm} {m : PySem.Str → Option Value} {news : List (Addr × Obj)} {h : Heap} {E : Value → Shared → Prop}
  {g : Array GenState} {d : Drawn} {tk : Nat} {o : OsState} {Q : Value → Shared → Prop}
variable {c s : Addr} {q : UK} {sq : SK} {kid : Kid} {T H hh0 : Nat} {r : List Int} {i : Int} {t : Tok}
theorem c_nextW (C : Cx w f m news h) (B : BSet w.params T hh0 news s sq kid) (U : CurUp w.params sq.cr T H news kid.fp c q s kid r) (hF : ∀ b ∈ sq.fp kid, b ∉ q.fp) (h3 : 3 ≤ T) (h5 : T ≤ 5) (hH : hh0 ≤ H) (hH9 : H ≤ 900) (hd : f.dp + 2 < 1000)
    (k : ∀ h' tk' news' q' v, Cx w f m news' h' → Ch news q.fp news' q'.fp → ((v = .none ∧ r = [] ∧ CurOut w.params news' c q' s 1) ∨ ∃ a e r', v = .ref a ∧ r = e :: r' ∧ IsE w.params news' (a, e) ∧ CurUp w.params sq.cr T H news' kid.fp c q' s kid r') → Q v ⟨h', g, d, tk', o⟩) :
    wpAny (MM w) (AR f) (call (.ref 484) [.ref c]) Q E ⟨h, g, d, tk, o⟩ :=
  c_next C B U hF h3 h5 hH hH9 hd (fun hr h' tk' news' q' C' U' ch e1 e2 => k h' tk' news' q' _ C' (by rw [show q'.fp = q.fp by simp [UK.fp, e1, e2]]; exact ch) (.inl ⟨rfl, hr, U'⟩))
    (fun e r' hr h' tk' news' q' a C' hE U' ch e1 e2 => k h' tk' news' q' _ C' (by rw [show q'.fp = q.fp by simp [UK.fp, e1, e2]]; exact ch) (.inr ⟨a, e, r', rfl, hr, hE, U'⟩))
theorem c_prevW (C : Cx w f m news h) (B : BSet w.params T hh0 news s sq kid) (U : CurDn w.params sq.cr T H news kid.fp c q s kid r) (hF : ∀ b ∈ sq.fp kid, b ∉ q.fp) (h3 : 3 ≤ T) (h5 : T ≤ 5) (hH : hh0 ≤ H) (hH9 : H ≤ 900) (hd : f.dp + 2 < 1000)
    (k : ∀ h' tk' news' q' v, Cx w f m news' h' → Ch news q.fp news' q'.fp → ((v = .none ∧ r = [] ∧ CurOut w.params news' c q' s 0) ∨ ∃ a e r', v = .ref a ∧ r = e :: r' ∧ IsE w.params news' (a, e) ∧ CurDn w.params sq.cr T H news' kid.fp c q' s kid r') → Q v ⟨h', g, d, tk', o⟩) :
    wpAny (MM w) (AR f) (call (.ref 477) [.ref c]) Q E ⟨h, g, d, tk, o⟩ :=
  c_prev C B U hF h3 h5 hH hH9 hd (fun hr h' tk' news' q' C' U' ch e1 e2 => k h' tk' news' q' _ C' (by rw [show q'.fp = q.fp by simp [UK.fp, e1, e2]]; exact ch) (.inl ⟨rfl, hr, U'⟩))
    (fun e r' hr h' tk' news' q' a C' hE U' ch e1 e2 => k h' tk' news' q' _ C' (by rw [show q'.fp = q.fp by simp [UK.fp, e1, e2]]; exact ch) (.inr ⟨a, e, r', rfl, hr, hE, U'⟩))
/-- prev, whatever the way before -/
theorem c_prevA (C : Cx w f m news h) (B : BSet w.params T hh0 news s sq kid) (U : CurOut w.params news c q s 0 ∨ ∃ r, CurDn w.params sq.cr T H news kid.fp c q s kid r) (hF : ∀ b ∈ sq.fp kid, b ∉ q.fp) (h3 : 3 ≤ T) (h5 : T ≤ 5) (hH : hh0 ≤ H) (hH9 : H ≤ 900) (hd : f.dp + 2 < 1000)
    (k : ∀ h' tk' news' q' v, Cx w f m news' h' → Ch news q.fp news' q'.fp → (CurOut w.params news' c q' s 0 ∨ ∃ r, CurDn w.params sq.cr T H news' kid.fp c q' s kid r) → Q v ⟨h', g, d, tk', o⟩) :
    wpAny (MM w) (AR f) (call (.ref 477) [.ref c]) Q E ⟨h, g, d, tk, o⟩ := by
  rcases U with U | ⟨r, U⟩
  · exact c_prev0 C U hd fun h' tk' news' q' C' U' ch e1 e2 => k h' tk' news' q' _ C' (by rw [show q'.fp = q.fp by simp [UK.fp, e1, e2]]; exact ch) (.inl U')
  · refine c_prevW C B U hF h3 h5 hH hH9 hd fun h' tk' news' q' v C' ch z => k h' tk' news' q' v C' ch ?_
    rcases z with ⟨_, _, z⟩ | ⟨_, _, r', _, _, _, z⟩
    · exact .inl z
    · exact .inr ⟨r', z⟩
end
section
theorem drop_cons {l : List Int} {i : Nat} {e : Int} {r : List Int} (h : l.drop i = e :: r) : i < l.length ∧ l.take (i + 1) = l.take i ++ [e] ∧ l.drop (i + 1) = r := by
  have hl : i < l.length := by
    by_cases q : i < l.length
    · exact q
    · rw [List.drop_eq_nil_of_le (by omega)] at h; cases h
  rw [List.drop_eq_getElem_cons hl] at h
  injection h with h1 h2
  refine ⟨hl, ?_, h2⟩
  rw [List.take_succ, List.getElem?_eq_getElem hl, h1]
  rfl
variable {w : World} {f : Fm} {m : PySem.Str → Option Value} {news : List (Addr × Obj)} {h : Heap} {E : Value → Shared → Prop}
  {g : Array GenState} {d : Drawn} {tk : Nat} {o : OsState} {Q : Value → Shared → Prop}
theorem s_slice3 {M : Model} {A : Around} {env : Env} {lower upper step : Option Expr} {p : Pos} {s : Shared}
    (k : wpAny M A (evalPart lower env) (fun vl s₂ => wpAny M A (evalPart upper env) (fun vu s₃ => wpAny M A (evalPart step env) (fun vk s₄ => Q (.ref s₄.heap.objs.size) { s₄ with heap := s₄.heap.push { cls := .type "slice", data := .fields #[vl, vu, vk] } }) E s₃) E s₂) E s) :
    wpAny M A (eval (.Slice lower upper step p) env) Q E s := wpAny_Slice k
theorem s_And {M : Model} {A : Around} {env : Env} {e₁ e₂ : Expr} {pos : Pos} {s : Shared} (k : wpAny M A (eval e₁ env) (fun v s₁ => v = .bool true ∧ wpAny M A (eval e₂ env) Q E s₁) E s) : wpAny M A (eval (.BoolOp .And [e₁, e₂] pos) env) Q E s :=
  BoolOp_and (wpAny_mono k (fun v s₁ z => by obtain ⟨rfl, z⟩ := z; exact wpAny_truthy_bool (BoolOp_one z)) fun _ _ z => z)
end

local macro_rules | `(tactic| walk_at "m.s") => `(tactic| ((with_reducible refine' s_unpack3 ?C ?m ?hA ?_); (case C => walk_at "m.C"); (case m => walk_at "m.mem"); (case hA => exact rfl); intro _ _))

-- Z2
section
variable {w : World} {f : Fm} {m : PySem.Str → Option Value} {news : List (Addr × Obj)} {h : Heap} {E : Value → Shared → Prop}
  {g : Array GenState} {d : Drawn} {tk : Nat} {o : OsState} {Q : Value → Shared → Prop}
local macro_rules | `(tactic| walk_at "l.C") => `(tactic| (refine cs_execs (wpC_any ?_)))
theorem law_call {p : Program} {lo : List PySem.Str} {me : ExcName → Option Value} {mg mb : PySem.Str → Option Value} {l : Nat} {vs : List Value} {script : List Int} (X : (Mine.hd.heap_39 w.params).In h) (T : Top p lo me mg mb h) (hl : h.IsList l vs.toArray) (hi : IntsAre vs script) (hz : vs.length ≤ 1000) :
    codeC (MM w) callerA (.call (.ref 726) ⟨[.ref l], []⟩) (fun r s' => r = .ok (.ret (.bool true)) ∧ (∀ b ob, h.get? b = some ob → s'.heap.get? b = some ob) ∧ s'.gens = g ∧ s'.os = o) ⟨h, g, d, tk, o⟩ := by
  refine' enterC_top (binds := [("script", .ref l)]) X T ?k6 ?k7 ?k9 ?kB ?kD ?_ ?c2 ?c3 ?c4
  (case k6 => k_is); (case k7 => k_is); (case k9 => exact rfl); (case kB => exact rfl); (case kD => decide +kernel); (case c2 => exact rfl); (case c3 => exact rfl); (case c4 => exact rfl)
  intro L' h' tk' cells C0 Y
  obtain ⟨og, ov, ot, rfl, hg, hv, ht⟩ := CellsAre.three Y
  clear Y
  replace hg : og.data = .cell none := hg
  replace hv : ov.data = .cell none := hv
  replace ht : ot.data = .cell none := ht
  replace C0 := (id C0 : Cx w _ _ [(L' + 1 + 1 + 1, og), (L' + 1 + 1, ov), (L' + 1, ot)] h')
  have S : ∀ h2 : Heap, (∀ b ob, h.get? b = some ob → h2.get? b = some ob) → h2.IsList l vs.toArray := fun h2 k => by obtain ⟨ob, e, r⟩ := hl; exact ⟨ob, k _ _ e, r⟩
  -- a = script[0] if script != [] else 0
  refine cut (SA w C0.fr g d o fun m n => ∃ a t, m "script" = some (.ref l) ∧ m "a" = some (.int a t) ∧ ∀ p ∈ [(L' + 1 + 1 + 1, og), (L' + 1 + 1, ov), (L' + 1, ot)], p ∈ n) (wpC_any ?_) ?_
  · repeat walk_at "m.s"
    refine l_ne (us := []) (S _ (by assumption : Cx w _ _ _ _).F.keep) hi ((by assumption : Cx w _ _ _ _).isList (.head _)) .nil (Nat.le_of_ble_eq_true rfl) ?_
    repeat walk_at "m.s"
    refine ifB_dec (fun e => ?_) (fun e => ?_)
    · repeat walk_at "m.s"
      exact SA.mk (by walk_at "m.C") rfl ⟨_, _, rfl, rfl, fun p hp => .tail _ hp⟩
    · repeat walk_at "m.s"
      obtain ⟨a, r, rfl⟩ := List.exists_cons_of_ne_nil e
      obtain ⟨t, ha⟩ := hi.get 0 a rfl
      refine l_item (S _ (by assumption : Cx w _ _ _ _).F.keep) (by decide) hz ha ?_ rfl (fun _ => rfl)
      repeat walk_at "m.s"
      exact SA.mk (by walk_at "m.C") rfl ⟨_, _, rfl, rfl, fun p hp => .tail _ hp⟩
  rintro _ ⟨h4, tk4, m4, n4, rfl, C4, a, ta, e1, e2, sb⟩
  have C := (C4.re e1).re (x := "a") (v := .int a ta) ((congrFun (re_eq e1) "a").trans e2)
  clear C4
  have Mt : (L' + 1, ot) ∈ n4 := sb _ (by simp)
  have Mv : (L' + 1 + 1, ov) ∈ n4 := sb _ (by simp)
  have Mg : (L' + 1 + 1 + 1, og) ∈ n4 := sb _ (by simp)
  clear sb
  -- tree, held = (BTreeSet(t=3 + a % 3), [])
  obtain ⟨T, hT3, hT5, hTe⟩ : ∃ T : Nat, 3 ≤ T ∧ T ≤ 5 ∧ (3 : Int) + a.fmod 3 = T := ⟨(3 + a.fmod 3).toNat, by have := Int.fmod_nonneg_of_pos a (b := 3) (by decide); omega, by have := Int.fmod_lt_of_pos a (b := 3) (by decide); omega, by have := Int.fmod_nonneg_of_pos a (b := 3) (by decide); omega⟩
  refine cut (SA w C0.fr g d o (LJ w T l (L' + 1) (L' + 1 + 1) (L' + 1 + 1 + 1) a [] 0)) (cs_AssignTuple (cs_Tuple ?_) rfl rfl) ?_
  · refine cs_arg (cs_CallKW (wpC_any ?_) rfl) rfl
    repeat walk_at "m.s"
    refine cs_callKW (K := Mine.hd.heap_39 w.params) (by k_is) rfl ?_ rfl
    repeat (first | walk_at "m.kws" | walk_at "m.s")
    show wpC _ _ (call (.ref 714) [] [("t", .int (3 + a.fmod 3) _)]) _ _ _
    rw [hTe]
    refine wpC_any (c_newset (by walk_at "m.C") hT3 (Nat.lt_of_lt_of_eq (by decide : 302 + 12 < 1000) rfl) ?_)
    intro h5 tk5 s q kid n5 C5 B5 hks sb5 fr5
    refine cs_arg (wpC_any ?_) rfl
    repeat walk_at "m.s"
    refine cs_args0 (wpC_any ?_)
    repeat walk_at "m.s"
    refine wpC_any ?_
    repeat walk_at "m.s"
    rename_i D h6 C6 l6 Tp h7 C7 l7 h8 C8
    have L0 : LI w.params T 0 n5 s q kid [(L' + 1, ot), (L' + 1 + 1, ov), (L' + 1 + 1 + 1, og)] := by
      refine ⟨B5, fun p hp => ?_, fun p hp hb => ?_, ?_⟩
      · simp only [List.mem_cons, List.not_mem_nil, or_false] at hp
        rcases hp with rfl | rfl | rfl
        · exact sb5 _ Mt
        · exact sb5 _ Mv
        · exact sb5 _ Mg
      · simp only [List.mem_cons, List.not_mem_nil, or_false] at hp
        rcases hp with rfl | rfl | rfl
        · exact fr5 _ hb _ Mt
        · exact fr5 _ hb _ Mv
        · exact fr5 _ hb _ Mg
      · simp
    have L1 := L0.push (n2 := (Tp, tupOf [.ref s, .ref D]) :: (D, listOf ([] : List Value).toArray 0) :: n5) (D := D) (ob := listOf ([] : List Value).toArray 0) (fun p hp => .tail _ (.tail _ hp)) (.tail _ (.head _)) (fun p hp => Nat.ne_of_lt (l6 p hp))
    refine x_stc (c := L' + 1) C8 rfl (.tail _ (.tail _ (sb5 _ Mt))) ht ?_ rfl
    intro h9 ot' C9 ht' ch9
    have L2 := L1.set (R1 := []) (c := L' + 1) ch9
    repeat walk_at "m.s"
    refine SA.mk (by walk_at "m.C") rfl ⟨s, q, kid, 0, ot', ov, og, D, 0, [], ta, _, lm_eq rfl rfl rfl, L2, ?_, ht', ⟨_, hv⟩, ⟨_, hg⟩, Nat.le_refl _, ?_, ?_⟩
    · rw [hks]; exact .nil
    · rw [hks]; exact Nat.le_refl _
    · rw [hks]; exact fun _ h => nomatch h
  clear C Mt Mv Mg e1 e2 ht hv hg
  rintro _ ⟨h5, tk5, m5, n5, rfl, C5, J5⟩
  obtain ⟨s, q, kid, hh, ot', ov', og', D, n6, us, t6, m6, rfl, K5⟩ := id J5
  -- for n in range(a // 3 % 21)
  have hN : ∃ N : Nat, (a.fdiv 3).fmod 21 = N ∧ N ≤ 20 := ⟨((a.fdiv 3).fmod 21).toNat, by have := Int.fmod_nonneg_of_pos (a.fdiv 3) (b := 21) (by decide); omega, by have := Int.fmod_lt_of_pos (a.fdiv 3) (b := 21) (by decide); omega⟩
  obtain ⟨N, hN, hN20⟩ := hN
  refine cut (SA w C0.fr g d o (LJ w T l (L' + 1) (L' + 1 + 1) (L' + 1 + 1 + 1) a [] 20)) (cs_For ?_ (fun _ => rfl)) ?_
  · repeat walk_at "m.s"
    rw [hN]
    refine for_range (by walk_at "m.C") (by omega) (fun I it i => LJ w T l (L' + 1) (L' + 1 + 1) (L' + 1 + 1 + 1) a [(I, it)] i) (fun I it hI => ⟨s, q, kid, hh, ot', ov', og', D, n6, us, t6, m6, rfl, K5.push (fun p hp => .tail _ hp) (.head _) hI⟩) ?_ ?_
    · clear K5
      rintro I i t7 _ n7 n8 h8 tk8 it0 it1 hi ⟨s, q, kid, hh, ot, ov, og, D, n9, us, t9, m9, rfl, K7⟩ C8 ch8 hI8
      have K8 := K7.iter ch8 hI8
      clear K7
      obtain ⟨xv, hv⟩ := K8.hv
      have Mv := K8.L.sub (L' + 1 + 1, ov) (by simp)
      have Mt := K8.L.sub (L' + 1, ot) (by simp)
      have ht := K8.ht
      unfold Turn
      repeat walk_at "m.s"
      refine cs_execs (wpC_any ?_)
      repeat walk_at "m.s"
      refine i_mul (IntMulOk.of_left (intBits_le_iff.mpr (by omega))) ?_
      repeat walk_at "m.s"
      obtain ⟨V, hV, hV0, hV1⟩ : ∃ V, ((i : Int) * (1 + (a.fdiv 63).fmod 40) * 7).fmod 1000 = V ∧ 0 ≤ V ∧ V < 1000 := ⟨_, rfl, Int.fmod_nonneg_of_pos _ (by decide), Int.fmod_lt_of_pos _ (by decide)⟩
      rw [hV]
      refine x_stc (c := L' + 1 + 1) (by walk_at "m.C") rfl Mv hv ?_ rfl
      intro h9 ov2 C9 hv2 ch9
      have K9 := K8.value ch9 mem_up_self hv2
      clear K8 Mv Mt hv
      have Mt := K9.L.sub (L' + 1, ot) (by simp)
      have Mv := K9.L.sub (L' + 1 + 1, ov2) (by simp)
      have Hi := K9.L.B.i
      have Hd := K9.L.B.d
      refine cs_execs (cs_Expr (cs_MethodCall (wpC_any ?_) rfl) rfl rfl)
      repeat walk_at "m.s"
      refine wpC_any ?_
      repeat walk_at "m.s"
      refine cs_callK X (by k_is) (cs_arg (cs_Call (wpC_any ?_) rfl) rfl) rfl rfl
      repeat walk_at "m.s"
      refine cs_callK X (by k_is) (cs_arg (wpC_any ?_) rfl) rfl rfl
      repeat walk_at "m.s"
      refine cs_args0 ⟨Cx.KX (by walk_at "m.C"), ?_⟩
      refine c_encode (by walk_at "m.C") ⟨hV0, by omega⟩ (Nat.le_of_ble_eq_true rfl) ?_
      intro h10 tk10 kb tb C10 hkb
      refine cs_args0 ⟨C10.KX, ?_⟩
      refine wpC_any (c_add C10 K9.L.B hkb hT3 hT5 (show 302 + hh + 14 < 1000 by have := K9.hh; omega) ?_)
      intro h11 tk11 n11 q' kid' hh' C11 B11 hh11 ks11 ch11
      have hinc := K9.L.B.inc
      have K11 := K9.tree (j := i + 1) B11 ch11 (by have := K9.hh; omega) (by omega)
      have hlen : us.length ≤ i := by rw [K9.hI.length]; exact K9.hn
      have hlen2 := K9.hn
      clear K9 Hi Hd Mt Mv
      have Mt := K11.L.sub (L' + 1, ot) (by simp)
      have Mv := K11.L.sub (L' + 1 + 1, ov2) (by simp)
      have MD := K11.L.sub (D, listOf us.toArray n9) (by simp)
      refine cs_execs (wpC_any ?_)
      repeat walk_at "m.s"
      refine keep_list (v := V) (by walk_at "m.C") MD K11.hI (by omega) ?hi rfl (by decide) rfl (by decide) rfl (by decide) (fun _ => rfl) ?T ?_
      case hi =>
        intro Q' hQ
        repeat walk_at "m.s"
        exact hQ
      case T =>
        intro i1 t1 I1 oI1 K1 oC1 D1 ys1 m1 h1 tk1 hN1 hm1 C1
        repeat walk_at "m.s"
        exact ⟨by simp, _, _, rfl, by walk_at "m.C"⟩
      intro D2 ws c2 h12 tk12 C12 l12 hws
      repeat walk_at "m.s"
      rename_i Lv h13 C13 l13
      have dl := delI_length V kid.ks
      have wl : ws.length ≤ i := by rw [hws.length]; omega
      refine l_plus (vs := ws) (us := [.int V _]) C13 (C13.isList (.tail _ (.head _))) (C13.isList (.head _)) (by rw [List.length_singleton]; omega) ?_
      intro D3 h14 C14 l14
      repeat walk_at "m.s"
      refine l_sorted (vs := ws ++ [.int V _]) (ns := delI V kid.ks ++ [V]) C14 (C14.isList (.head _)) (hws.append (.cons _ _ .nil)) (by rw [List.length_append, List.length_singleton]; omega) ?_
      intro D4 vs4 ns4 c4 h15 C15 l15 hi4 hp4 hs4
      repeat walk_at "m.s"
      refine cs_nil ?_
      have e4 : ns4 = kid'.ks := by rw [ks11]; exact ins_sorted hinc hp4 hs4
      rw [e4] at hi4
      have K15 := K11.list (D' := D4) (n' := c4) (vs' := vs4) (n2 := C15.nw) (fun p hp => .tail _ (.tail _ (.tail _ (.tail _ hp)))) (.head _) (fun p hp => Nat.ne_of_lt (l15 p (.tail _ (.tail _ (.tail _ hp))))) hi4 (by rw [ks11]; have := insI_length V kid.ks; omega) (fun k hk => by
        rw [ks11, mem_insI] at hk
        rcases hk with rfl | hk
        · exact ⟨hV0, by omega⟩
        · exact K11.hr k hk)
      exact ⟨_, _, _, _, rfl, by walk_at "m.C", K15.L.sub (I, it1) (by simp), s, q', kid', hh', ot, ov2, og, D4, c4, vs4, t9, _, lm_eq rfl rfl rfl, K15⟩
    · rintro I it0 h7 tk7 m7 n7 n8 ⟨s, q, kid, hh, ot, ov, og, D, n9, us, t9, m9, rfl, K7⟩ C8 k8
      exact ⟨rfl, _, _, _, _, rfl, C8, s, q, kid, hh, ot, ov, og, D, n9, us, t9, m9, rfl, (K7.out k8).le hN20⟩
  clear K5 J5
  rintro _ ⟨h5, tk5, m5, n5, rfl, C5, J5⟩
  obtain ⟨s, q, kid, hh, ot, ov, og, D, n6, us, t6, m6, rfl, K5⟩ := id J5
  -- for x in (script[1:11] + [300])[:max(1, len(script[1:11]))]
  have hsl : script.length ≤ 1000 := by rw [← hi.length]; exact hz
  generalize hms : (script.drop (1 : Int).toNat).take (min (11 : Int).toNat script.length - (1 : Int).toNat) = ms
  have hml : ms.length ≤ 10 := by rw [← hms, List.length_take]; have : (11 : Int).toNat = 11 := rfl; have : (1 : Int).toNat = 1 := rfl; omega
  refine cut (SA w C0.fr g d o (LJ w T l (L' + 1) (L' + 1 + 1) (L' + 1 + 1 + 1) a [] 30)) (cs_For ?_ (fun _ => rfl)) ?_
  · repeat walk_at "m.s"
    refine l_cutI (ms := ms) (by walk_at "m.C") (S _ (by assumption : Cx w _ _ _ _).F.keep) hi (hms ▸ kmk_run hi (by decide) (by decide)) (.int 1 _) (.int 11 _) hz ?_ (fun _ => rfl) (fun _ => rfl)
    intro Da wa ha Ca la hwa
    have wal := hwa.length
    repeat walk_at "m.s"
    rename_i Db hb Cb lb
    refine l_plus (vs := wa) (us := [.int 300 _]) Cb (Cb.isList (.tail _ (.head _))) (Cb.isList (.head _)) (by rw [List.length_singleton]; omega) ?_
    intro Dc hc Cc lc
    repeat walk_at "m.s"
    refine l_cutI (ms := ms) (by walk_at "m.C") (S _ (by assumption : Cx w _ _ _ _).F.keep) hi (hms ▸ kmk_run hi (by decide) (by decide)) (.int 1 _) (.int 11 _) hz ?_ (fun _ => rfl) (fun _ => rfl)
    intro Dd wd hd Cd ld hwd
    have wdl := hwd.length
    repeat walk_at "m.s"
    refine i_max Cd rfl ?_
    intro he tke te Ce
    repeat walk_at "m.s"
    have hcat : ∀ tt, IntsAre (wa ++ [.int 300 tt]) (ms ++ [300]) := fun tt => hwa.append (.cons _ _ .nil)
    have hy : (0 : Int) ≤ (if (wd.length : Int) > 1 then (wd.length : Int) else 1) := by split <;> omega
    refine l_cutM (vs := wa ++ [.int 300 _]) Ce (.tail _ (.head _)) (kmk_upto (hcat _) hy) .none (.int _ _) (by rw [List.length_append, List.length_singleton]; omega) ?_ (fun _ => rfl)
    intro Df wf hf Cf lf hwf
    have hfl : ((ms ++ [300]).take (if (wd.length : Int) > 1 then (wd.length : Int) else 1).toNat).length ≤ 10 := by
      rw [List.length_take]
      have e : (if (wd.length : Int) > 1 then (wd.length : Int) else 1).toNat ≤ 10 := by split <;> omega
      omega
    generalize (ms ++ [300]).take (if (wd.length : Int) > 1 then (wd.length : Int) else 1).toNat = zs at hwf hfl
    have K6 := (((K5.mono (n2 := Cf.nw) (fun p hp => .tail _ (.tail _ (.tail _ (.tail _ (.tail _ hp)))))).le (Nat.le_refl 20)))
    have K6 : LK w.params T 20 Cf.nw (L' + 1) (L' + 1 + 1) (L' + 1 + 1 + 1) s q kid hh ot ov og D n6 us kid.ks [(Df, listOf wf.toArray 0)] := ((K5.mono (n2 := Ce.nw) (fun p hp => .tail _ (.tail _ (.tail _ (.tail _ hp))))).push (X := []) (fun p hp => .tail _ hp) (.head _) (fun p hp => Nat.ne_of_lt (lf p hp)))
    refine for_list Cf (.head _) (fun I it i => LJ w T l (L' + 1) (L' + 1 + 1) (L' + 1 + 1 + 1) a [(I, it), (Df, listOf wf.toArray 0)] (20 + i)) (fun I it hI => ⟨s, q, kid, hh, ot, ov, og, D, n6, us, t6, m6, rfl, (K6.push (fun p hp => .tail _ hp) (.head _) hI).swap⟩) ?_ ?_
    · clear K5 K6 J5
      rintro I i xv m7 n7 n8 h8 tk8 it0 it1 hxv ⟨s, q, kid, hh, ot, ov, og, D, n9, us, t9, m9, rfl, K7⟩ C8 ch8 hI8 hDf8 _
      obtain ⟨x, tx, rfl, _⟩ := hwf.at _ _ hxv
      have hi10 : i < 10 := by have := (List.getElem?_eq_some_iff.mp hxv).1; have := hwf.length; omega
      clear hxv
      have K8 := K7.iter ch8 hI8
      clear K7
      obtain ⟨xv, hv⟩ := K8.hv
      have Mv := K8.L.sub (L' + 1 + 1, ov) (by simp)
      unfold Turn
      repeat walk_at "m.s"
      refine cs_execs (wpC_any ?_)
      repeat walk_at "m.s"
      have j0 := Int.fmod_nonneg_of_pos x (b := 6) (by decide)
      have j1 := Int.fmod_lt_of_pos x (b := 6) (by decide)
      rename_i Dl hl8 Cl ll
      obtain ⟨V, tV, hVl, hVr⟩ := pickV (x.fdiv 6) j0 j1 _ _ _ _ _ _
      refine l_get Cl (.head _) j0 (Nat.le_of_ble_eq_true rfl) hVl ?_ rfl
      refine x_stc (c := L' + 1 + 1) (by walk_at "m.C") rfl (.tail _ Mv) hv ?_ rfl
      intro h9 ov2 C9 hv2 ch9
      have K9 := (K8.mono (n2 := Cl.nw) fun p hp => .tail _ hp).value ch9 mem_up_self hv2
      clear K8 Mv hv hVl
      have Mv := K9.L.sub (L' + 1 + 1, ov2) (by simp)
      refine cs_execs (cs_Assign (cs_Call (wpC_any ?_) rfl) rfl)
      repeat walk_at "m.s"
      refine cs_callK X (by k_is) (cs_arg (wpC_any ?_) rfl) rfl rfl
      repeat walk_at "m.s"
      refine cs_args0 ⟨Cx.KX (by walk_at "m.C"), ?_⟩
      refine c_encode (by walk_at "m.C") hVr (Nat.le_of_ble_eq_true rfl) ?_
      intro h10 tk10 kb tb C10 hkb
      refine wpC_any ?_
      repeat walk_at "m.s"
      refine cs_execs (wpC_any ?_)
      repeat walk_at "m.s"
      have hks : kb.size = encN V := by rw [← KBw.ints_length, hkb.1, encI_length]
      have hN8 : encN V ≤ 8 := by rcases encN_cases V hVr with ⟨_, e1, _⟩ | ⟨_, _, e1, _⟩ | ⟨_, _, e1, _⟩ | ⟨_, e1, _⟩ <;> omega
      refine c_law_octets (by walk_at "m.C") hVr (Nat.le_of_ble_eq_true rfl) ?_
      intro h11 tk11 kb2 tb2 C11 hkb2
      refine o_ne hkb hkb2 ?_
      repeat walk_at "m.s"
      refine c_size (by walk_at "m.C") hVr (Nat.le_of_ble_eq_true rfl) ?_
      intro h12 tk12 tn nn enn C12
      repeat walk_at "m.s"
      refine b_lenB (by omega) ?_
      repeat walk_at "m.s"
      refine cs_execs (cs_Assign (cs_CallKW (wpC_any ?_) rfl) rfl)
      repeat walk_at "m.s"
      refine cs_callKW (K := Mine.hd.heap_39 w.params) (by k_is) rfl ?_ rfl
      repeat (first | walk_at "m.kws" | walk_at "m.s")
      refine KBa.add_K hkb.1 (ls := [254]) rfl (by rw [encI_length]; simp only [List.length_singleton]; omega) fun tb4 tk13 hcat => ?_
      repeat (first | walk_at "m.kws" | walk_at "m.s")
      show wpC _ _ (call (.ref 193) [] [("data", .bytes (kb ++ #[254]) _)]) _ _ _
      refine bf_data (by walk_at "m.C") (by rw [Array.size_append]; simp only [List.size_toArray, List.length_singleton]; omega) (Nat.le_of_ble_eq_true rfl) ?_
      intro h14 tk14 bx bq n14 C14 B14 sb14 fr14
      have Hi := B14.hi
      have Hd := B14.hd
      refine wpC_any ?_
      repeat walk_at "m.s"
      refine cs_execs (wpC_any ?_)
      repeat walk_at "m.s"
      have hbs : (kb ++ #[(254 : UInt8)]).size ≤ 20 := by rw [Array.size_append]; simp only [List.size_toArray, List.length_singleton]; omega
      have e254 : (KBw.bInts (kb ++ #[(254 : UInt8)])).getD (encN V) 0 = 254 := by
        rw [hcat, List.getD_eq_getElem?_getD, List.getElem?_append_right (by rw [encI_length]; exact Nat.le_refl _), encI_length, Nat.sub_self]
        rfl
      refine c_pull_uint_var (rest := [254]) (by walk_at "m.C") B14 hcat hVr hbs (Nat.le_of_ble_eq_true rfl) ?_
      intro h15 tk15 t15 bq2 n15 C15 B15 ch15 e15 f15
      have chb := (Ch.refl.sub sb14).trans ch15
      have K15 := K9.ch chb (fun b hb x => fr14 b (by rw [List.mem_singleton.mp hb]; simp) x)
      have Mv15 := K15.L.sub (L' + 1 + 1, ov2) (by simp)
      clear Hi Hd
      have Hi := B15.hi
      have Hd := B15.hd
      repeat walk_at "m.s"
      refine c_pull_uint8 (by walk_at "m.C") B15 (by rw [Array.size_append, hks]; simp) hbs (Nat.le_of_ble_eq_true rfl) ?_
      intro h16 tk16 t16 n16 C16 ch16
      rw [e254]
      have K16 := K9.ch (chb.trans (e15 ▸ ch16)) (fun b hb x => fr14 b (by rw [List.mem_singleton.mp hb]; simp) x)
      clear Hi Hd Mv15 Mv K15 chb ch15 ch16 sb14 fr14 B14 B15 e254 hcat hbs
      have Mv := K16.L.sub (L' + 1 + 1, ov2) (by simp)
      repeat walk_at "m.s"
      have MD := K16.L.sub (D, listOf us.toArray n9) (by simp)
      have Mt := K16.L.sub (L' + 1, ot) (by simp)
      have Mg := K16.L.sub (L' + 1 + 1 + 1, og) (by simp)
      have ht := K16.ht
      obtain ⟨xg, hg⟩ := K16.hg
      have hlen : us.length ≤ 20 + i := by rw [K16.hI.length]; exact K16.hn
      have hlen2 := K16.hn
      have hinc := K16.L.B.inc
      refine cut (SA w C0.fr g d o fun m n => ∃ s q kid hh ot ov og D n2 vs t m0 tv, m = (fun y : PySem.Str => if y = "octets" then some (.bytes kb tb) else lm l a t D m0 y) ∧ LK w.params T (20 + (i + 1)) n (L' + 1) (L' + 1 + 1) (L' + 1 + 1 + 1) s q kid hh ot ov og D n2 vs kid.ks [(I, it1), (Df, listOf wf.toArray 0)] ∧ ov.data = .cell (some (.int V tv))) (cs_If (wpC_any ?_)) ?_
      · refine wpAny_mono (Q := fun b s' => (b = true → kid.ks ≠ []) ∧ ∃ h' tk' n', s' = ⟨h', g, d, tk', o⟩ ∧ Cx w C0.fr C16.mm n' h' ∧ (∀ p ∈ n16, p ∈ n')) ?_ (fun b s' z => ?_) fun _ _ e => e
        · repeat walk_at "m.s"
          refine l_ne (vs := us) (us := []) ((by assumption : Cx w _ _ _ _).isList (.tail _ MD)) K16.hI ((by assumption : Cx w _ _ _ _).isList (.head _)) .nil (Nat.le_of_ble_eq_true rfl) ?_
          repeat walk_at "m.s"
          refine ifB_dec (fun e => ?_) (fun e => ?_)
          · exact ⟨fun z => Bool.noConfusion z, _, _, _, rfl, by walk_at "m.C", fun p hp => .tail _ hp⟩
          · repeat walk_at "m.s"
            refine ifB_dec (fun e2 => ?_) (fun e2 => ?_)
            · repeat walk_at "m.s"
              exact ⟨fun _ => e, _, _, _, rfl, by walk_at "m.C", fun p hp => .tail _ hp⟩
            · repeat walk_at "m.s"
              refine ifB_dec (fun e3 => ?_) (fun e3 => ?_)
              · repeat walk_at "m.s"
                exact ⟨fun _ => e, _, _, _, rfl, by walk_at "m.C", fun p hp => .tail _ hp⟩
              · repeat walk_at "m.s"
                exact ⟨fun z => Bool.noConfusion z, _, _, _, rfl, by walk_at "m.C", fun p hp => .tail _ hp⟩
        · obtain ⟨hb, h17, tk17, n17, rfl, C17, sb17⟩ := z
          have K17 := K16.mono sb17
          clear K16 MD Mt Mg Mv
          have MD := K17.L.sub (D, listOf us.toArray n9) (by simp)
          have Mt := K17.L.sub (L' + 1, ot) (by simp)
          have Mv := K17.L.sub (L' + 1 + 1, ov2) (by simp)
          have Mg := K17.L.sub (L' + 1 + 1 + 1, og) (by simp)
          have Hi := K17.L.B.i
          have Hd := K17.L.B.d
          cases b with
          | true =>
            refine ifB_true ?_
            have hne : kid.ks ≠ [] := hb rfl
            have hpos : 0 < us.length := by rw [K17.hI.length]; exact List.length_pos_iff.mpr hne
            clear hb
            refine cs_execs (wpC_any ?_)
            repeat walk_at "m.s"
            refine i_mod (by omega) ?_
            have q0 := Int.fmod_nonneg_of_pos x (b := (us.length : Int)) (by omega)
            have q1 := Int.fmod_lt_of_pos x (b := (us.length : Int)) (by omega)
            obtain ⟨k0, hk0⟩ : ∃ k0, kid.ks[(x.fmod (us.length : Int)).toNat]? = some k0 := ⟨_, List.getElem?_eq_getElem (by rw [← K17.hI.length]; omega)⟩
            obtain ⟨t0, ht0⟩ := K17.hI.get _ _ hk0
            have hk0m : k0 ∈ kid.ks := List.mem_of_getElem? hk0
            have hk0r := K17.hr k0 hk0m
            refine l_get (by walk_at "m.C") MD q0 (by omega) ht0 ?_ rfl
            refine x_stc (c := L' + 1 + 1 + 1) (by walk_at "m.C") rfl Mg hg ?_ rfl
            intro h18 og2 C18 hg2 ch18
            have K18 := K17.gone ch18 mem_up_self hg2
            clear K17 MD Mt Mv Mg Hi Hd hg
            have Mt := K18.L.sub (L' + 1, ot) (by simp)
            have Mg := K18.L.sub (L' + 1 + 1 + 1, og2) (by simp)
            have Hi := K18.L.B.i
            have Hd := K18.L.B.d
            refine cs_execs (cs_Expr (cs_MethodCall (wpC_any ?_) rfl) rfl rfl)
            repeat walk_at "m.s"
            refine wpC_any ?_
            repeat walk_at "m.s"
            refine cs_callK X (by k_is) (cs_arg (cs_Call (wpC_any ?_) rfl) rfl) rfl rfl
            repeat walk_at "m.s"
            refine cs_callK X (by k_is) (cs_arg (wpC_any ?_) rfl) rfl rfl
            repeat walk_at "m.s"
            refine cs_args0 ⟨Cx.KX (by walk_at "m.C"), ?_⟩
            refine c_encode (by walk_at "m.C") hk0r (Nat.le_of_ble_eq_true rfl) ?_
            intro h19 tk19 k0b t0b C19 hk0b
            refine cs_args0 ⟨C19.KX, ?_⟩
            refine wpC_any (c_discard C19 K18.L.B hk0b hk0m hT3 hT5 (show 302 + hh + 22 < 1000 by have := K18.hh; omega) ?_)
            intro h20 tk20 n20 q' kid' hh' C20 B20 hh20 ks20 ch20
            have K20 := K18.tree (j := 20 + (i + 1)) B20 ch20 (by have := K18.hh; omega) (by omega)
            clear K18 Hi Hd Mt Mg
            have Mt := K20.L.sub (L' + 1, ot) (by simp)
            have Mg := K20.L.sub (L' + 1 + 1 + 1, og2) (by simp)
            have MD := K20.L.sub (D, listOf us.toArray n9) (by simp)
            refine cs_execs (wpC_any ?_)
            refine keep_assign (f := C20.fr) (v := k0) C20 MD K20.hI (by omega) ?hi rfl rfl rfl (by decide) rfl (by decide) rfl rfl rfl (by decide) (fun _ => rfl) ?T ?_
            case hi =>
              intro Q' hQ
              repeat walk_at "m.s"
              exact hQ
            case T =>
              intro i1 t1 I1 oI1 K1 oC1 D1 ys1 m1 h1 tk1 hN1 hm1 C1
              repeat walk_at "m.s"
              exact ⟨by simp, _, _, rfl, by walk_at "m.C"⟩
            intro D2 ws c2 h21 tk21 C21 l21 hws
            have dl := delI_length k0 kid.ks
            have K21 := K20.list (D' := D2) (n' := c2) (vs' := ws) (n2 := C21.nw) (fun p hp => .tail _ hp) (.head _) l21 (ks20 ▸ hws) (by rw [ks20]; omega) (fun k hk => by rw [ks20, mem_delI] at hk; exact K20.hr k hk.1)
            clear K20 Mt Mg MD
            have Mt := K21.L.sub (L' + 1, ot) (by simp)
            have Mg := K21.L.sub (L' + 1 + 1 + 1, og2) (by simp)
            refine cs_execs (cs_If (cs_isTrue_Compare1 (cs_Call (wpC_any ?_) rfl) rfl))
            repeat walk_at "m.s"
            refine cs_callK X (by k_is) (cs_arg (wpC_any ?_) rfl) rfl rfl
            repeat walk_at "m.s"
            refine cs_args0 ⟨Cx.KX (by walk_at "m.C"), ?_⟩
            refine c_encode (by walk_at "m.C") hk0r (Nat.le_of_ble_eq_true rfl) ?_
            intro h22 tk22 k1b t1b C22 hk1b
            repeat walk_at "m.s"
            refine t_in (by walk_at "m.C") K21.L.B hk1b hT3 hT5 (show 302 + hh' + 16 < 1000 by have := K21.hh; omega) ?_
            intro h23 tk23 C23
            rw [show decide (k0 ∈ kid'.ks) = false from decide_eq_false (by rw [ks20, mem_delI]; exact fun z => z.2 rfl)]
            repeat walk_at "m.s"
            refine cs_nil ?_
            refine cs_nil ?_
            exact SA.mk (by walk_at "m.C") rfl ⟨s, q', kid', hh', ot, ov2, og2, D2, c2, ws, t9, _, tV, lmo_eq rfl rfl rfl rfl, K21, hv2⟩
          | false =>
            refine ifB_false ?_
            refine cs_execs (wpC_any ?_)
            repeat walk_at "m.s"
            refine c_add (by walk_at "m.C") K17.L.B hkb hT3 hT5 (show 302 + hh + 14 < 1000 by have := K17.hh; omega) ?_
            intro h20 tk20 n20 q' kid' hh' C20 B20 hh20 ks20 ch20
            have K20 := K17.tree (j := 20 + (i + 1)) B20 ch20 (by have := K17.hh; omega) (by omega)
            clear K17 Hi Hd Mt Mg Mv MD
            have Mv := K20.L.sub (L' + 1 + 1, ov2) (by simp)
            have MD := K20.L.sub (D, listOf us.toArray n9) (by simp)
            repeat walk_at "m.s"
            refine cs_execs (wpC_any ?_)
            repeat walk_at "m.s"
            refine keep_list (v := V) (by walk_at "m.C") MD K20.hI (by omega) ?hi rfl (by decide) rfl (by decide) rfl (by decide) (fun _ => rfl) ?T ?_
            case hi =>
              intro Q' hQ
              repeat walk_at "m.s"
              exact hQ
            case T =>
              intro i1 t1 I1 oI1 K1 oC1 D1 ys1 m1 h1 tk1 hN1 hm1 C1
              repeat walk_at "m.s"
              exact ⟨by simp, _, _, rfl, by walk_at "m.C"⟩
            intro D2 ws c2 h21 tk21 C21 l21 hws
            repeat walk_at "m.s"
            rename_i Lv h22 C22 l22
            have dl := delI_length V kid.ks
            have wl : ws.length ≤ 20 + i := by rw [hws.length]; omega
            refine l_plus (vs := ws) (us := [.int V _]) C22 (C22.isList (.tail _ (.head _))) (C22.isList (.head _)) (by rw [List.length_singleton]; omega) ?_
            intro D3 h23 C23 l23
            repeat walk_at "m.s"
            refine l_sorted (vs := ws ++ [.int V _]) (ns := delI V kid.ks ++ [V]) C23 (C23.isList (.head _)) (hws.append (.cons _ _ .nil)) (by rw [List.length_append, List.length_singleton]; omega) ?_
            intro D4 vs4 ns4 c4 h24 C24 l24 hi4 hp4 hs4
            repeat walk_at "m.s"
            refine cs_nil ?_
            have e4 : ns4 = kid'.ks := by rw [ks20]; exact ins_sorted hinc hp4 hs4
            rw [e4] at hi4
            have K24 := K20.list (D' := D4) (n' := c4) (vs' := vs4) (n2 := C24.nw) (fun p hp => .tail _ (.tail _ (.tail _ (.tail _ hp)))) (.head _) (fun p hp => Nat.ne_of_lt (l24 p (.tail _ (.tail _ (.tail _ hp))))) hi4 (by rw [ks20]; have := insI_length V kid.ks; omega) (fun k hk => by
              rw [ks20, mem_insI] at hk
              rcases hk with rfl | hk
              · exact hVr
              · exact K20.hr k hk)
            exact SA.mk (by walk_at "m.C") rfl ⟨s, q', kid', hh', ot, ov2, og, D4, c4, vs4, t9, _, tV, lmo_eq rfl rfl rfl rfl, K24, hv2⟩
      clear K16 MD Mt Mg Mv hg ht hinc hlen hlen2 hv2
      rintro _ ⟨h25, tk25, _, n25, rfl, C25, s, q, kid, hh, ot, ov, og, D, n2, us, t25, m25, tv, rfl, K25, hv⟩
      have MD := K25.L.sub (D, listOf us.toArray n2) (by simp)
      have Mt := K25.L.sub (L' + 1, ot) (by simp)
      have Mv := K25.L.sub (L' + 1 + 1, ov) (by simp)
      have ht := K25.ht
      have hlen : us.length = kid.ks.length := K25.hI.length
      have hlen2 := K25.hn
      refine cs_execs (wpC_any ?_)
      repeat walk_at "m.s"
      refine t_len (by walk_at "m.C") K25.L.B (Nat.le_of_ble_eq_true rfl) (Nat.le_of_ble_eq_true rfl) (by omega) ?_
      intro h26 tk26 u26 C26
      repeat walk_at "m.s"
      refine t_in (by walk_at "m.C") K25.L.B hkb hT3 hT5 (show 302 + hh + 16 < 1000 by have := K25.hh; omega) ?_
      intro h27 tk27 C27
      repeat walk_at "m.s"
      refine l_has (vs := us) (C27.isList MD) K25.hI ?_
      refine PyProof.Rows.ne_bool ?_
      rw [bne_self_eq_false]
      repeat walk_at "m.s"
      refine cs_nil ?_
      exact ⟨_, _, _, _, rfl, by walk_at "m.C", K25.L.sub (I, it1) (by simp), K25.L.sub (Df, _) (by simp), s, q, kid, hh, ot, ov, og, D, n2, us, t25, _, lm_eq rfl rfl rfl, K25⟩
    · rintro I it0 h7 tk7 m7 n7 n8 ⟨s, q, kid, hh, ot, ov, og, D, n9, us, t9, m9, rfl, K7⟩ C8 k8
      exact ⟨rfl, _, _, _, _, rfl, C8, s, q, kid, hh, ot, ov, og, D, n9, us, t9, m9, rfl, ((K7.out k8).drop).le (by have := hwf.length; omega)⟩
  clear J5 K5
  rintro _ ⟨h5, tk5, m5, n5, rfl, C5, s, q, kid, hh, ot, ov, og, D, n9, us, t9, m9, rfl, K5⟩
  have MD := K5.L.sub (D, listOf us.toArray n9) (by simp)
  have Mt := K5.L.sub (L' + 1, ot) (by simp)
  have ht := K5.ht
  have hlen : us.length = kid.ks.length := K5.hI.length
  have hlen2 := K5.hn
  -- due, told, back = ([_law_octets(one) for one in held], [], [])
  refine cs_execs (wpC_any (Assign_Tuple_swapped (names := ["due", "told", "back"]) ?_ rfl rfl))
  repeat walk_at "m.s"
  refine' map_list (f := C5.fr) ?C MD K5.hI ?hz ?hi ?h1 ?h2 ?h3 ?h4 ?h5 ?h6 ?T ?_
  case C => walk_at "m.C"
  case hz => omega
  case h1 => exact rfl
  case h2 => decide
  case h3 => exact rfl
  case h4 => decide
  case h5 => exact rfl
  case h6 => exact fun _ => rfl
  case hi =>
    intro Q' hQ
    repeat walk_at "m.s"
    exact hQ
  case T =>
    intro i1 t1 I1 oI1 K1 oC1 D1 ys1 m1 h1 tk1 hi1 hN1 hm1 C1
    repeat walk_at "m.s"
    refine c_law_octets (by walk_at "m.C") (K5.hr _ hi1) (Nat.le_of_ble_eq_true rfl) ?_
    intro h2 tk2 b2 t2 C2 hb2
    exact ⟨⟨_, _, rfl, hb2⟩, _, _, rfl, by walk_at "m.C"⟩
  intro Due wd cd h6 tk6 C6 l6 hwd
  repeat walk_at "m.s"
  rename_i Told h7 C7 l7 Back h8 C8 l8 Tp h9 C9 l9
  refine unpackItemsN_ C9.F C9.N ⟨_, C9.get (.head _), rfl, 0, rfl⟩ rfl rfl fun h10 F10 N10 => ?_
  have C10 := C9.to F10 N10
  refine assignInOrder_cons (wpAny_bindName ?_)
  repeat walk_at "m.s"
  refine assignInOrder_cons (wpAny_bindName ?_)
  repeat walk_at "m.s"
  refine assignInOrder_cons (wpAny_bindName ?_)
  repeat walk_at "m.s"
  refine assignInOrder_nil ?_
  have K6 : LK w.params T 30 C10.nw (L' + 1) (L' + 1 + 1) (L' + 1 + 1 + 1) s q kid hh ot ov og D n9 us kid.ks [(Due, listOf wd.toArray cd), (Told, listOf ([] : List Value).toArray 0), (Back, listOf ([] : List Value).toArray 0)] :=
    (((K5.push (X := []) (n2 := C6.nw) (fun p hp => .tail _ hp) (.head _) l6).push (n2 := C7.nw) (fun p hp => .tail _ hp) (.head _) (fun p hp => Nat.ne_of_lt (l7 p hp))).push (n2 := C8.nw) (fun p hp => .tail _ hp) (.head _) (fun p hp => Nat.ne_of_lt (l8 p hp))).mono fun p hp => .tail _ hp
  clear K5 MD Mt ht
  have MDue := K6.L.sub (Due, listOf wd.toArray cd) (by simp)
  have Mt := K6.L.sub (L' + 1, ot) (by simp)
  have ht := K6.ht
  have wdl := hwd.length
  -- if [one for one in due if one not in tree] != []
  refine cs_execs (wpC_any ?_)
  repeat walk_at "m.s"
  rename_i h11 C11
  refine' pick_list (f := C11.fr) (vs := wd) (p := fun _ => false) C11 MDue ?hz ?hi ?h1 ?h2 ?h3 ?h4 ?h5 ?h6 ?h7 ?T ?_
  case hz => omega
  case hi =>
    intro Q' hQ
    repeat walk_at "m.s"
    exact hQ
  case h1 => exact rfl
  case h2 => decide
  case h3 => exact rfl
  case h4 => decide
  case h5 => exact rfl
  case h6 => decide
  case h7 => exact fun _ => rfl
  case T =>
    intro v1 I1 oI1 K1 oC1 D1 ys1 m1 h1 tk1 hv1 hN1 hm1 C1
    obtain ⟨b1, t1, k1, rfl, hb1, hk1⟩ := hwd.mem hv1
    repeat walk_at "m.s"
    refine t_notin (by walk_at "m.C") (K6.mono (fun p hp => .tail _ (.tail _ (.tail _ hp)))).L.B hb1 hT3 hT5 (show 302 + hh + 16 < 1000 by have := K6.hh; omega) ?_
    intro h2 tk2 C2
    rw [decide_eq_true hk1]
    repeat walk_at "m.s"
    exact ⟨rfl, _, _, rfl, by walk_at "m.C"⟩
  intro Dp h12 tk12 C12 l12
  rw [show wd.filter (fun _ => false) = [] from List.filter_eq_nil_iff.mpr fun _ _ => Bool.false_ne_true] at C12
  repeat walk_at "m.s"
  rename_i Dn h13 C13 l13
  refine l_ne (vs := []) (us := []) (C13.isList (.tail _ (.head _))) .nil (C13.isList (.head _)) .nil (Nat.le_of_ble_eq_true rfl) ?_
  rw [show (!decide (([] : List Int) = [])) = false from rfl]
  repeat walk_at "m.s"
  -- cursor = tree.cursor()
  have K13 := K6.mono (n2 := C13.nw) fun p hp => .tail _ (.tail _ hp)
  clear MDue Mt
  have Mt := K13.L.sub (L' + 1, ot) (by simp)
  have Hi := K13.L.B.i
  have Hd := K13.L.B.d
  refine cs_execs (wpC_any ?_)
  repeat walk_at "m.s"
  refine c_cursor (by walk_at "m.C") (Nat.le_of_ble_eq_true rfl) ?_
  intro h14 tk14 x uq n14 C14 U14 sb14 fr14
  repeat walk_at "m.s"
  rename_i h15 C15
  have K15 : CK w.params T n14 (L' + 1) (L' + 1 + 1) (L' + 1 + 1 + 1) s q kid hh ot ov og D n9 us uq [(Due, listOf wd.toArray cd), (Told, listOf ([] : List Value).toArray 0), (Back, listOf ([] : List Value).toArray 0)] := by
    have fr : ∀ b ∈ uq.fp, ∀ y, (b, y) ∉ C13.nw := fun b hb => fr14 b (by simp only [UK.fp, List.mem_cons, List.not_mem_nil, or_false] at hb ⊢; rcases hb with h | h <;> simp [h])
    refine ⟨K13.mono sb14, fun b hb hu => ?_, fun p hp hu => fr _ hu p.2 (K13.L.sub p hp)⟩
    obtain ⟨y, hy⟩ := K13.L.B.has b hb
    exact fr b hu y hy
  have A15 : CurUp w.params q.cr T 30 n14 kid.fp x uq s kid kid.ks := ⟨_, _, _, _, _, _, _, U14, .inl ⟨rfl, rfl, rfl, rfl, rfl⟩⟩
  have em := lc_eq (D := D) (Due := Due) (Told := Told) (Back := Back) (x := x) (m := C15.mm) rfl rfl rfl rfl rfl
  generalize hM : C15.mm = M at em
  have C15 : Cx w C0.fr M n14 h15 := hM ▸ C15
  rw [em] at C15
  clear em hM
  have C := C15
  have K := K15
  have Y := A15
  clear C15 K15 A15
  -- cursor.next()
  refine cut (SA w C0.fr g d o fun m n => ∃ uq m0, m = lc D Due Told Back x m0 ∧ CK w.params T n (L' + 1) (L' + 1 + 1) (L' + 1 + 1 + 1) s q kid hh ot ov og D n9 us uq [(Due, listOf wd.toArray cd), (Told, listOf (List.toArray ([] : List Value)) 0), (Back, listOf (List.toArray ([] : List Value)) 0)] ∧ CurAny w.params n x uq s) (wpC_any ?_) ?_
  · obtain ⟨_, _, _, _, _, _, _, U⟩ := id Y.any
    have Hi := U.hi
    have Hd := U.hd
    repeat walk_at "m.s"
    refine c_nextW (by walk_at "m.C") K.K.L.B Y K.f1 hT3 hT5 K.K.hh (by decide) (Nat.le_of_ble_eq_true rfl) ?_
    intro h16 tk16 n16 uq2 v C16 ch z
    repeat walk_at "m.s"
    exact SA.mk (by walk_at "m.C") rfl ⟨_, _, rfl, K.step ch, by rcases z with ⟨_, _, z⟩ | ⟨_, _, _, _, _, _, z⟩ <;> exact z.any⟩
  clear C K Y
  rintro _ ⟨h20, tk20, _, n20, rfl, C, uq, m20, rfl, K, Y⟩
  -- cursor.seek_first()
  refine cut (SA w C0.fr g d o fun m n => ∃ uq m0, m = lc D Due Told Back x m0 ∧ CK w.params T n (L' + 1) (L' + 1 + 1) (L' + 1 + 1 + 1) s q kid hh ot ov og D n9 us uq [(Due, listOf wd.toArray cd), (Told, listOf (List.toArray ([] : List Value)) 0), (Back, listOf (List.toArray ([] : List Value)) 0)] ∧ CurOut w.params n x uq s 0) (wpC_any ?_) ?_
  · obtain ⟨_, _, _, _, _, _, _, U⟩ := id Y
    have Hi := U.hi
    have Hd := U.hd
    repeat walk_at "m.s"
    refine c_seek_first (by walk_at "m.C") U (Nat.le_of_ble_eq_true rfl) ?_
    intro h16 tk16 uq2 n16 C16 z ch
    repeat walk_at "m.s"
    exact SA.mk (by walk_at "m.C") rfl ⟨_, _, rfl, K.step ch, z⟩
  clear C K Y
  rintro _ ⟨h20, tk20, _, n20, rfl, C, uq, m20, rfl, K, Y⟩
  -- for n in range(len(held) + 1): found = cursor.next(); told.append(..)
  have MD := K.K.L.sub (D, listOf us.toArray n9) (by simp)
  refine cut (SA w C0.fr g d o fun m n => ∃ uq m0 tl c vl, m = lc D Due Told Back x m0 ∧ CK w.params T n (L' + 1) (L' + 1 + 1) (L' + 1 + 1 + 1) s q kid hh ot ov og D n9 us uq [(Due, listOf wd.toArray cd), (Told, listOf (List.toArray tl) c), (Back, listOf (List.toArray ([] : List Value)) 0)] ∧ tl = vl ++ [Value.none] ∧ BytesAre vl kid.ks ∧ CurOut w.params n x uq s 1) (cs_For ?_ (fun _ => rfl)) ?_
  · repeat walk_at "m.s"
    rw [show (us.length : Int) + 1 = ((kid.ks.length + 1 : Nat) : Int) by omega]
    refine for_range (by walk_at "m.C") (by omega) (fun I it i m n => ∃ uq m0 tl c, m = lc D Due Told Back x m0 ∧ CK w.params T n (L' + 1) (L' + 1 + 1) (L' + 1 + 1 + 1) s q kid hh ot ov og D n9 us uq ((I, it) :: [(Due, listOf wd.toArray cd), (Told, listOf (List.toArray tl) c), (Back, listOf (List.toArray ([] : List Value)) 0)]) ∧ ((i ≤ kid.ks.length ∧ BytesAre tl ((kid.ks).take i) ∧ CurUp w.params q.cr T 30 n kid.fp x uq s kid ((kid.ks).drop i)) ∨ (i = kid.ks.length + 1 ∧ ∃ vl, tl = vl ++ [Value.none] ∧ BytesAre vl (kid.ks) ∧ CurOut w.params n x uq s 1))) ?_ ?_ ?_
    · intro I it hI
      exact ⟨uq, m20, [], 0, rfl, K.push Y.any.has (fun p hp => .tail _ hp) (.head _) hI, .inl ⟨Nat.zero_le _, .nil, (Y.up).ch (Ch.none fun p hp => .tail _ hp) (fun h => nomatch h) (fun h => nomatch h) fun _ _ h => nomatch h⟩⟩
    · clear K Y MD
      rintro I i t7 _ n7 n8 h8 tk8 it0 it1 hi ⟨uq, m0, tl, c, rfl, K7, Y7⟩ C8 ch8 hI8
      obtain ⟨hiL, hb, Y7⟩ : i ≤ kid.ks.length ∧ BytesAre tl ((kid.ks).take i) ∧ CurUp w.params q.cr T 30 n7 kid.fp x uq s kid ((kid.ks).drop i) := by
        rcases Y7 with z | ⟨z, _⟩
        · exact z
        · omega
      have o1 := K7.off1 (p := (I, it0)) (by simp)
      have K8 := K7.set (X1 := []) ch8 hI8
      have Y8 := Y7.ch ch8 o1.1 o1.2.1 o1.2.2
      clear K7 Y7 o1
      obtain ⟨_, _, _, _, _, _, _, U⟩ := id Y8.any
      have Hi := U.hi
      have Hd := U.hd
      unfold Turn
      repeat walk_at "m.s"
      refine cs_execs (wpC_any ?_)
      repeat walk_at "m.s"
      refine c_nextW (by walk_at "m.C") K8.K.L.B Y8 K8.f1 hT3 hT5 K8.K.hh (by decide) (Nat.le_of_ble_eq_true rfl) ?_
      intro h9 tk9 n10 uq2 v C9 ch9 z
      have K9 := K8.step ch9
      clear K8 Y8 Hi Hd U
      have ML := K9.K.L.sub (Told, listOf (List.toArray tl) c) (by simp)
      have o9 := K9.off1 (p := (Told, listOf (List.toArray tl) c)) (by simp)
      have tll : tl.length ≤ 31 := by have := hb.length; rw [List.length_take] at this; omega
      repeat walk_at "m.s"
      refine cs_execs (wpC_any ?_)
      rcases z with ⟨rfl, hr, Y9⟩ | ⟨ae, e, r', rfl, hr, hE, Y9⟩
      · repeat walk_at "m.s"
        rename_i C10
        refine l_append C10 ML (by omega) ?_
        intro h11 C11
        have chL := Ch.up (o' := listOf (tl ++ [Value.none]).toArray (c + 1)) C10 ML rfl
        repeat walk_at "m.s"
        refine cs_nil ?_
        have K11 := K9.set (X1 := [(I, it1), (Due, _)]) chL mem_up_self
        have hiE : i = kid.ks.length := by have := List.drop_eq_nil_iff.mp hr; (try simp only [List.length_reverse] at this); omega
        rw [List.take_of_length_le (by first | omega | (simp only [List.length_reverse]; omega))] at hb
        exact ⟨_, _, _, _, rfl, by walk_at "m.C", K11.K.L.sub (I, it1) (by simp), uq2, _, _, _, lc_eq rfl rfl rfl rfl rfl, K11, .inr ⟨by omega, tl, rfl, hb, Y9.ch chL o9.1 o9.2.1⟩⟩
      · obtain ⟨kb, tb, hEb, hkb⟩ := hE
        repeat walk_at "m.s"
        rename_i C10
        refine l_append C10 ML (by omega) ?_
        intro h11 C11
        have chL := Ch.up (o' := listOf (tl ++ [Value.bytes kb tb]).toArray (c + 1)) C10 ML rfl
        repeat walk_at "m.s"
        refine cs_nil ?_
        have K11 := K9.set (X1 := [(I, it1), (Due, _)]) chL mem_up_self
        obtain ⟨hlt, e1, e2⟩ := drop_cons hr
        (try simp only [List.length_reverse] at hlt)
        exact ⟨_, _, _, _, rfl, by walk_at "m.C", K11.K.L.sub (I, it1) (by simp), uq2, _, _, _, lc_eq rfl rfl rfl rfl rfl, K11, .inl ⟨by omega, by rw [e1]; exact hb.snoc hkb, by rw [e2]; exact Y9.ch chL o9.1 o9.2.1 o9.2.2⟩⟩
    · rintro I it0 h7 tk7 _ n7 n8 ⟨uq, m0, tl, c, rfl, K7, Y7⟩ C8 k8
      rcases Y7 with ⟨z, _⟩ | ⟨_, vl, rfl, hb, Y7⟩
      · omega
      · have o1 := K7.off1 (p := (I, it0)) (by simp)
        exact ⟨rfl, _, _, _, _, rfl, C8, uq, m0, _, c, vl, rfl, K7.out k8, rfl, hb, Y7.ch k8 o1.1 o1.2.1⟩
  clear C K Y MD
  rintro _ ⟨h20, tk20, _, n20, rfl, C, uq, m20, tlo, cT, vT, rfl, K, rfl, hvT, Y⟩
  have YY : CurOut w.params n20 x uq s 0 ∨ ∃ r, CurDn w.params q.cr T 30 n20 kid.fp x uq s kid r := .inr ⟨_, Y.dn⟩
  -- cursor.prev()
  refine cut (SA w C0.fr g d o fun m n => ∃ uq m0, m = lc D Due Told Back x m0 ∧ CK w.params T n (L' + 1) (L' + 1 + 1) (L' + 1 + 1 + 1) s q kid hh ot ov og D n9 us uq [(Due, listOf wd.toArray cd), (Told, listOf (List.toArray (vT ++ [Value.none])) cT), (Back, listOf (List.toArray ([] : List Value)) 0)] ∧ (CurOut w.params n x uq s 0 ∨ ∃ r, CurDn w.params q.cr T 30 n kid.fp x uq s kid r)) (wpC_any ?_) ?_
  · obtain ⟨_, _, _, _, _, _, _, U⟩ := id Y.any
    have Hi := U.hi
    have Hd := U.hd
    repeat walk_at "m.s"
    refine c_prevA (by walk_at "m.C") K.K.L.B YY K.f1 hT3 hT5 K.K.hh (by decide) (Nat.le_of_ble_eq_true rfl) ?_
    intro h16 tk16 n16 uq2 v C16 ch z
    repeat walk_at "m.s"
    exact SA.mk (by walk_at "m.C") rfl ⟨_, _, rfl, K.step ch, z⟩
  clear C K Y YY
  rintro _ ⟨h20, tk20, _, n20, rfl, C, uq, m20, rfl, K, YY⟩
  -- cursor.prev()
  refine cut (SA w C0.fr g d o fun m n => ∃ uq m0, m = lc D Due Told Back x m0 ∧ CK w.params T n (L' + 1) (L' + 1 + 1) (L' + 1 + 1 + 1) s q kid hh ot ov og D n9 us uq [(Due, listOf wd.toArray cd), (Told, listOf (List.toArray (vT ++ [Value.none])) cT), (Back, listOf (List.toArray ([] : List Value)) 0)] ∧ (CurOut w.params n x uq s 0 ∨ ∃ r, CurDn w.params q.cr T 30 n kid.fp x uq s kid r)) (wpC_any ?_) ?_
  · obtain ⟨_, _, _, _, _, _, _, U⟩ := id (YY.elim (fun z => z.any) fun ⟨_, z⟩ => z.any)
    have Hi := U.hi
    have Hd := U.hd
    repeat walk_at "m.s"
    refine c_prevA (by walk_at "m.C") K.K.L.B YY K.f1 hT3 hT5 K.K.hh (by decide) (Nat.le_of_ble_eq_true rfl) ?_
    intro h16 tk16 n16 uq2 v C16 ch z
    repeat walk_at "m.s"
    exact SA.mk (by walk_at "m.C") rfl ⟨_, _, rfl, K.step ch, z⟩
  clear C K YY
  rintro _ ⟨h20, tk20, _, n20, rfl, C, uq, m20, rfl, K, YY⟩
  -- cursor.seek_last()
  refine cut (SA w C0.fr g d o fun m n => ∃ uq m0, m = lc D Due Told Back x m0 ∧ CK w.params T n (L' + 1) (L' + 1 + 1) (L' + 1 + 1 + 1) s q kid hh ot ov og D n9 us uq [(Due, listOf wd.toArray cd), (Told, listOf (List.toArray (vT ++ [Value.none])) cT), (Back, listOf (List.toArray ([] : List Value)) 0)] ∧ CurOut w.params n x uq s 1) (wpC_any ?_) ?_
  · obtain ⟨_, _, _, _, _, _, _, U⟩ := id (YY.elim (fun z => z.any) fun ⟨_, z⟩ => z.any)
    have Hi := U.hi
    have Hd := U.hd
    repeat walk_at "m.s"
    refine c_seek_last (by walk_at "m.C") U (Nat.le_of_ble_eq_true rfl) ?_
    intro h16 tk16 uq2 n16 C16 z ch
    repeat walk_at "m.s"
    exact SA.mk (by walk_at "m.C") rfl ⟨_, _, rfl, K.step ch, z⟩
  clear C K YY
  rintro _ ⟨h20, tk20, _, n20, rfl, C, uq, m20, rfl, K, Y⟩
  -- for n in range(len(held) + 1): found = cursor.prev(); back.append(..)
  have MD := K.K.L.sub (D, listOf us.toArray n9) (by simp)
  refine cut (SA w C0.fr g d o fun m n => ∃ uq m0 tl c vl, m = lc D Due Told Back x m0 ∧ CK w.params T n (L' + 1) (L' + 1 + 1) (L' + 1 + 1 + 1) s q kid hh ot ov og D n9 us uq [(Due, listOf wd.toArray cd), (Told, listOf (List.toArray (vT ++ [Value.none])) cT), (Back, listOf (List.toArray tl) c)] ∧ tl = vl ++ [Value.none] ∧ BytesAre vl kid.ks.reverse ∧ CurOut w.params n x uq s 0) (cs_For ?_ (fun _ => rfl)) ?_
  · repeat walk_at "m.s"
    rw [show (us.length : Int) + 1 = ((kid.ks.length + 1 : Nat) : Int) by omega]
    refine for_range (by walk_at "m.C") (by omega) (fun I it i m n => ∃ uq m0 tl c, m = lc D Due Told Back x m0 ∧ CK w.params T n (L' + 1) (L' + 1 + 1) (L' + 1 + 1 + 1) s q kid hh ot ov og D n9 us uq ((I, it) :: [(Due, listOf wd.toArray cd), (Told, listOf (List.toArray (vT ++ [Value.none])) cT), (Back, listOf (List.toArray tl) c)]) ∧ ((i ≤ kid.ks.length ∧ BytesAre tl ((kid.ks.reverse).take i) ∧ CurDn w.params q.cr T 30 n kid.fp x uq s kid ((kid.ks.reverse).drop i)) ∨ (i = kid.ks.length + 1 ∧ ∃ vl, tl = vl ++ [Value.none] ∧ BytesAre vl (kid.ks.reverse) ∧ CurOut w.params n x uq s 0))) ?_ ?_ ?_
    · intro I it hI
      exact ⟨uq, m20, [], 0, rfl, K.push Y.any.has (fun p hp => .tail _ hp) (.head _) hI, .inl ⟨Nat.zero_le _, .nil, (Y.dn).ch (Ch.none fun p hp => .tail _ hp) (fun h => nomatch h) (fun h => nomatch h) fun _ _ h => nomatch h⟩⟩
    · clear K Y MD
      rintro I i t7 _ n7 n8 h8 tk8 it0 it1 hi ⟨uq, m0, tl, c, rfl, K7, Y7⟩ C8 ch8 hI8
      obtain ⟨hiL, hb, Y7⟩ : i ≤ kid.ks.length ∧ BytesAre tl ((kid.ks.reverse).take i) ∧ CurDn w.params q.cr T 30 n7 kid.fp x uq s kid ((kid.ks.reverse).drop i) := by
        rcases Y7 with z | ⟨z, _⟩
        · exact z
        · omega
      have o1 := K7.off1 (p := (I, it0)) (by simp)
      have K8 := K7.set (X1 := []) ch8 hI8
      have Y8 := Y7.ch ch8 o1.1 o1.2.1 o1.2.2
      clear K7 Y7 o1
      obtain ⟨_, _, _, _, _, _, _, U⟩ := id Y8.any
      have Hi := U.hi
      have Hd := U.hd
      unfold Turn
      repeat walk_at "m.s"
      refine cs_execs (wpC_any ?_)
      repeat walk_at "m.s"
      refine c_prevW (by walk_at "m.C") K8.K.L.B Y8 K8.f1 hT3 hT5 K8.K.hh (by decide) (Nat.le_of_ble_eq_true rfl) ?_
      intro h9 tk9 n10 uq2 v C9 ch9 z
      have K9 := K8.step ch9
      clear K8 Y8 Hi Hd U
      have ML := K9.K.L.sub (Back, listOf (List.toArray tl) c) (by simp)
      have o9 := K9.off1 (p := (Back, listOf (List.toArray tl) c)) (by simp)
      have tll : tl.length ≤ 31 := by have := hb.length; rw [List.length_take] at this; omega
      repeat walk_at "m.s"
      refine cs_execs (wpC_any ?_)
      rcases z with ⟨rfl, hr, Y9⟩ | ⟨ae, e, r', rfl, hr, hE, Y9⟩
      · repeat walk_at "m.s"
        rename_i C10
        refine l_append C10 ML (by omega) ?_
        intro h11 C11
        have chL := Ch.up (o' := listOf (tl ++ [Value.none]).toArray (c + 1)) C10 ML rfl
        repeat walk_at "m.s"
        refine cs_nil ?_
        have K11 := K9.set (X1 := [(I, it1), (Due, _), (Told, _)]) chL mem_up_self
        have hiE : i = kid.ks.length := by have := List.drop_eq_nil_iff.mp hr; (try simp only [List.length_reverse] at this); omega
        rw [List.take_of_length_le (by first | omega | (simp only [List.length_reverse]; omega))] at hb
        exact ⟨_, _, _, _, rfl, by walk_at "m.C", K11.K.L.sub (I, it1) (by simp), uq2, _, _, _, lc_eq rfl rfl rfl rfl rfl, K11, .inr ⟨by omega, tl, rfl, hb, Y9.ch chL o9.1 o9.2.1⟩⟩
      · obtain ⟨kb, tb, hEb, hkb⟩ := hE
        repeat walk_at "m.s"
        rename_i C10
        refine l_append C10 ML (by omega) ?_
        intro h11 C11
        have chL := Ch.up (o' := listOf (tl ++ [Value.bytes kb tb]).toArray (c + 1)) C10 ML rfl
        repeat walk_at "m.s"
        refine cs_nil ?_
        have K11 := K9.set (X1 := [(I, it1), (Due, _), (Told, _)]) chL mem_up_self
        obtain ⟨hlt, e1, e2⟩ := drop_cons hr
        (try simp only [List.length_reverse] at hlt)
        exact ⟨_, _, _, _, rfl, by walk_at "m.C", K11.K.L.sub (I, it1) (by simp), uq2, _, _, _, lc_eq rfl rfl rfl rfl rfl, K11, .inl ⟨by omega, by rw [e1]; exact hb.snoc hkb, by rw [e2]; exact Y9.ch chL o9.1 o9.2.1 o9.2.2⟩⟩
    · rintro I it0 h7 tk7 _ n7 n8 ⟨uq, m0, tl, c, rfl, K7, Y7⟩ C8 k8
      rcases Y7 with ⟨z, _⟩ | ⟨_, vl, rfl, hb, Y7⟩
      · omega
      · have o1 := K7.off1 (p := (I, it0)) (by simp)
        exact ⟨rfl, _, _, _, _, rfl, C8, uq, m0, _, c, vl, rfl, K7.out k8, rfl, hb, Y7.ch k8 o1.1 o1.2.1⟩
  clear C K Y MD
  rintro _ ⟨h20, tk20, _, n20, rfl, C, uq, m20, tlo, cB, vB, rfl, K, rfl, hvB, Y⟩
  -- return told == due + [None] and back == due[::-1] + [None]
  have MDue := K.K.L.sub (Due, listOf wd.toArray cd) (by simp)
  have MT := K.K.L.sub (Told, listOf (vT ++ [Value.none]).toArray cT) (by simp)
  have MB := K.K.L.sub (Back, listOf (vB ++ [Value.none]).toArray cB) (by simp)
  refine cs_execs (wpC_any ?_)
  repeat walk_at "m.s"
  refine s_And ?_
  repeat walk_at "m.s"
  rename_i Dn h21 C21 l21
  refine l_plus (vs := wd) (us := [Value.none]) C21 (C21.isList (.tail _ MDue)) (C21.isList (.head _)) (by rw [List.length_singleton]; omega) ?_
  intro Dd h22 C22 l22
  refine o_eq (vs := vT) (us := wd) (C22.isList (.tail _ (.tail _ MT))) (C22.isList (.head _)) hvT hwd (Nat.le_of_ble_eq_true rfl) ⟨rfl, ?_⟩
  repeat walk_at "m.s"
  refine s_slice3 ?_
  repeat walk_at "m.s"
  refine l_rev (vs := wd) C22 (C22.isList (.tail _ (.tail _ MDue))) (by omega) ?_ (fun _ => rfl) rfl
  intro Dr h23 C23 l23
  repeat walk_at "m.s"
  rename_i Dn2 h24 C24 l24
  refine l_plus (vs := wd.reverse) (us := [Value.none]) C24 (C24.isList (.tail _ (.head _))) (C24.isList (.head _)) (by rw [List.length_singleton, List.length_reverse]; omega) ?_
  intro De h25 C25 l25
  refine o_eq (vs := vB) (us := wd.reverse) (C25.isList (.tail _ (.tail _ (.tail _ (.tail _ (.tail _ MB)))))) (C25.isList (.head _)) hvB hwd.rev (Nat.le_of_ble_eq_true rfl) ?_
  exact ⟨rfl, C25.F.keep, rfl, rfl⟩
end

local macro_rules | `(tactic| walk_at "l.C") => `(tactic| (refine cs_execs (wpC_any ?_)))

-- ZD
section
theorem true_good {h0 : Heap} {s₁ s' : Shared} {xs : List Int} (hk : ∀ b ob, s₁.heap.get? b = some ob → s'.heap.get? b = some ob) (hos : s'.os = s₁.os) (hg : s'.gens = #[]) :
    GoodWG PySem.Challenge.rw_vq0012_01.row.claim (classAt h0) (ExcName.means h0) [ofPy (PyData.list (List.map PyData.int xs))] s₁ (.ok (.ret (.bool true))) s' := by
  refine GoodW.toG ⟨.inl ⟨.bool true, .bool true, [], rfl, ?hn, .bool true, ?hp, ?hu⟩, hk, hos, hg⟩
  case hn => intro cls; rfl
  case hp => wrow_post
  case hu => intro h; exact ⟨List.nodup_nil, fun _ h => nomatch h⟩
theorem law_holds : PySem.Challenge.rw_vq0012_01.Holds := by
  refine Mine.hd ?_
  intro w s₀ s₁ mg mb G Y a o pm cd doc dV kV ho hd hcd hD hmg hg args vals as hpre hlay hrd hwl hlo
  have X := kIn_of Y
  have T := G.T
  obtain rfl : a = 726 := by
    have e : mg "law" = some (.ref 726) := mg_of X T.g (by k_is)
    have e2 : mg "law" = some (.ref a) := hmg
    rw [e] at e2
    injection e2 with e2
    injection e2 with e2
    exact e2.symm
  clear ho hd hcd hD hmg
  wrow_args hpre hlay hrd hwl hlo
  rename_i xs _ _ _ _ _ _ _ l vs _ hL _ _ _ hI _ hc _
  have hz : vs.length ≤ 1000 := by rw [hI.length]; omega
  obtain ⟨hh, gg, dd, tk, oo⟩ := s₁
  refine ⟨wpC_call (codeC_mono (law_call X T hL hI hz) fun r s' z => ?_), true_good (fun _ _ e => e) rfl hg⟩
  obtain ⟨rfl, hk, h2, h3⟩ := z
  exact true_good hk h3 (h2.trans hg)
end

end Mine
theorem PySem.Challenge.cw_vq0012_01_holds : PySem.Challenge.rw_vq0012_01.Holds :=
  Mine.law_holds
