import PyProof.Rows.All
import Wide.All
import OpenK.AllK
import Wide.FinOn
import PySem.Challenge.RW_ph0126_01
open PySem PySem.W PySem.Calls PyProof.Rows
set_option Elab.async false
set_option maxRecDepth 100000
set_option maxHeartbeats 8000000
namespace Mine
/-! text Top -/
section
-- the text without its four rows that bind __name__: the view under which the law is called
noncomputable def kept : List Stmt := ((PySem.Challenge.pw_ph0126_01.main.body.drop 1).take 3) ++ (((PySem.Challenge.pw_ph0126_01.main.body.drop 5).take 7) ++ (((PySem.Challenge.pw_ph0126_01.main.body.drop 13).take 1) ++ (PySem.Challenge.pw_ph0126_01.main.body.drop 15)))
noncomputable def view : Program := { PySem.Challenge.rw_ph0126_01.row.toRowW.1 with main := { PySem.Challenge.rw_ph0126_01.row.toRowW.1.main with body := kept } }
theorem head (H : Hook) {d : DefRec} {kwd : List (Str × Expr)}
    (hdef : defOf view PySem.Challenge.rw_ph0126_01.row.name = some (d, kwd)) (hp : PySem.Challenge.rw_ph0126_01.row.prog.theDef PySem.Challenge.rw_ph0126_01.row.name = some (d.params, d.body, d.scope))
    (hk : kwWritten? d.params.kwonlyargs d.params.kw_defaults = some kwd) (k1 : PySem.Challenge.rw_ph0126_01.row.wellSaid = true)
    (hl : LeftO PySem.Challenge.rw_ph0126_01.row.toRowW.1 view [] (fun s => xlAt view [] s && recOk (RowW.records PySem.Challenge.rw_ph0126_01.row.toRowW) s) (Hook.obs H) (Hook.val H) 1280)
    (hw : PySem.Challenge.rw_ph0126_01.row.toRowW.promised)
    (hc : WalkO view [] (XL view []) (Hook.says H) PySem.Challenge.rw_ph0126_01.row.toRowW d kwd fun f vs => PySem.call f vs) : PySem.Challenge.rw_ph0126_01.row.Holds :=
  holds_open (q := view) (loose := []) (Xt := fun s => xlAt view [] s && recOk (RowW.records PySem.Challenge.rw_ph0126_01.row.toRowW) s) (XP := XL view []) (Yf := Hook.obs H) (Ya := Hook.val H) (YP := Hook.says H) (N := 1280) hl (Hook.of H) (Hook.keeps H) (fun s e => xl_of s (Bool.and_eq_true_iff.mp e).1) XL.keeps hdef hp hk (fun s e => recFacts_of (Bool.and_eq_true_iff.mp e).2) (by rfl) k1 (by decide +kernel) ⟨rfl, rfl, rfl, rfl, rfl, by decide +kernel⟩ hw hc
theorem said : PySem.Challenge.rw_ph0126_01.wellSaid = true := by
  unfold OpenLaw.wellSaid
  repeat' first | with_reducible refine look_both ?_ ?_ | unfold OpenRow.wellSaid | unfold OpenRow.partSaid | unfold looksOpen
  all_goals decide +kernel
local macro_rules | `(tactic| o_law) => `(tactic| refine holds_law said fun said => ?_)
local macro_rules | `(tactic| o_head $H:term) => `(tactic| refine head $H (by rfl) (by rfl) (by rfl) (by assumption) (fun w => by kernel_rfl) ?hw ?hc)
open_top hd for PySem.Challenge.rw_ph0126_01
end
theorem topOff : True := by
  w_top off
  trivial
/-! text Up -/
section
theorem runs_toks {M : Model} {Γ : Ctx} {p : Pos} {t : Sem Fin} {fs : List Frame} {s s' : Shared} {e : End} (h : Runs M Γ p t fs s e s') : s.toks ≤ s'.toks := by
  induction h with
  | done => exact Nat.le_refl _
  | raise => exact Nat.le_refl _
  | yield => exact Nat.le_refl _
  | fresh _ ih => exact Nat.le_of_succ_le ih
  | call _ _ i j => exact Nat.le_trans i j
  | resumeFresh _ _ _ _ i j => exact Nat.le_trans i j
  | resumeSuspended _ _ _ _ i j => exact Nat.le_trans i j
  | segRet _ _ i j => exact Nat.le_trans i j
  | segGen _ _ i j => exact Nat.le_trans i j
  | segSuspGen _ _ _ _ i j => exact Nat.le_trans i j
  | _ => assumption
theorem wakes_toks {M : Model} {Γ : Ctx} {p : Pos} {g : Nat} {r : Resume} {s s' : Shared} {res : GenResult} (h : Wakes M Γ p g r s res s') : s.toks ≤ s'.toks := by
  unfold Wakes at h
  split at h
  · exact h.elim
  · split at h
    · obtain ⟨e, s₁, R, _, _, rfl⟩ := h; have := runs_toks R; exact this
    · rw [h.2]; exact Nat.le_refl _
    · rw [h.2]; exact Nat.le_refl _
  · obtain ⟨e, s₁, R, _, _, rfl⟩ := h; have := runs_toks R; exact this
  · rw [h.2]; exact Nat.le_refl _
  · rw [h.2]; exact Nat.le_refl _
theorem wp_toks {α : Type} (M : Model) (Γ : Ctx) (t : Sem α) : ∀ (Q : α → Pos → Shared → Prop) (E : Value → Pos → Shared → Prop) (p : Pos) (s : Shared) (k : Nat), k ≤ s.toks →
    Sem.wp M Γ t (fun a p s' => k ≤ s'.toks → Q a p s') E p s → Sem.wp M Γ t Q E p s := by
  induction t with
  | pure a => intro Q E p s k hk h; exact h hk
  | raise e => intro Q E p s k hk h; exact h
  | unsupported _ => intro Q E p s k hk h; exact h
  | finish _ => intro Q E p s k hk h; exact h
  | register _ _ => intro Q E p s k hk h; exact h
  | «yield» => intro Q E p s k hk h; exact h
  | fork => intro Q E p s k hk h; exact h
  | await => intro Q E p s k hk h; exact h
  | rule _ f ih => intro Q E p s k hk h; exact ih _ _ _ _ _ _ hk h
  | «at» _ f ih => intro Q E p s k hk h; exact ih _ _ _ _ _ _ hk h
  | load a pt f ih => intro Q E p s k hk h; obtain ⟨o, e, h⟩ := h; exact ⟨o, e, ih _ _ _ _ _ _ hk h⟩
  | update a pt g f ih => intro Q E p s k hk h; exact ⟨h.1, ih _ _ _ _ _ _ hk h.2⟩
  | loadIfAlive a f ih => intro Q E p s k hk h; exact ih _ _ _ _ _ _ hk h
  | point _ f ih => intro Q E p s k hk h; exact ih _ _ _ _ _ _ hk h
  | alloc o f ih => intro Q E p s k hk h; exact ih _ _ _ _ _ _ hk h
  | fresh f ih => intro Q E p s k hk h; exact ih _ _ _ _ _ _ (Nat.le_succ_of_le hk) h
  | ask f ih => intro Q E p s k hk h; exact ih _ _ _ _ _ _ hk h
  | choose _ _ f ih => intro Q E p s k hk h; exact ⟨h.1, ih _ _ _ _ _ _ hk h.2⟩
  | os _ _ f ih => intro Q E p s k hk h; exact ih _ _ _ _ _ _ hk h
  | call c hh g l f ih =>
    intro Q E p s k hk h
    obtain ⟨r, s', R, h⟩ := h
    exact ⟨r, s', R, ih _ _ _ _ _ _ (Nat.le_trans hk (runs_toks R)) h⟩
  | handled own f ih => intro Q E p s k hk h; exact ih _ _ _ _ _ _ hk h
  | genState g f ih => intro Q E p s k hk h; obtain ⟨st, e, h⟩ := h; exact ⟨st, e, ih _ _ _ _ _ _ hk h⟩
  | newGen c f ih => intro Q E p s k hk h; exact ih _ _ _ _ _ _ hk h
  | resume g r l f ih =>
    intro Q E p s k hk h
    obtain ⟨res, s', W, h⟩ := h
    exact ⟨res, s', W, ih _ _ _ _ _ _ (Nat.le_trans hk (wakes_toks W)) h⟩
  | stack f ih => intro Q E p s k hk h; exact ih _ _ _ _ _ _ hk h
  | thread f ih => intro Q E p s k hk h; exact ih _ _ _ _ _ _ hk h
/-- no step takes a token back -/
theorem wpAny_up {α : Type} {M : Model} {A : Around} {t : Sem α} {Q : α → Shared → Prop} {E : Value → Shared → Prop} {s : Shared} (h : wpAny M A t (fun a s' => s.toks ≤ s'.toks → Q a s') E s) : wpAny M A t Q E s :=
  fun Γ p hΓ => wp_toks M Γ t _ _ p s s.toks (Nat.le_refl _) (h Γ p hΓ)
/-- tokens are above nought (where `P` asks it) -/
noncomputable def Tk (P : Prop) (n : Nat) : Prop := P → 0 < n
noncomputable def UpQ {α : Type} (P : Prop) (Q : α → Shared → Prop) : α → Shared → Prop := fun a s' => Tk P s'.toks → Q a s'
theorem wpUp {P : Prop} {α : Type} {M : Model} {A : Around} {t : Sem α} {Q : α → Shared → Prop} {E : Value → Shared → Prop} {s : Shared} (hp : Tk P s.toks) (h : wpAny M A t (UpQ P Q) E s) : wpAny M A t Q E s :=
  wpAny_up (wpAny_mono h (fun a s' q hle => q fun x => Nat.lt_of_lt_of_le (hp x) hle) fun _ _ e => e)
theorem UpQ.mk {P : Prop} {α : Type} {Q : α → Shared → Prop} {a : α} {s : Shared} (h : Tk P s.toks → Q a s) : UpQ P Q a s := h
theorem Tk.add {P : Prop} {n : Nat} (k : Nat) (h : Tk P n) : Tk P (n + k) := fun x => Nat.lt_of_lt_of_le (h x) (Nat.le_add_right _ _)
theorem Tk.succ {P : Prop} {n : Nat} : Tk P (n + 1) := fun _ => Nat.succ_pos _
theorem genTk {P : Prop} {α : Type} {M : Model} {A : Around} {t : Sem α} {Q : α → Shared → Prop} {E : Value → Shared → Prop} {s : Shared} (hp : Tk P s.toks) (h : ∀ tk, Tk P tk → wpAny M A t Q E { s with toks := tk }) : wpAny M A t Q E s := h s.toks hp
theorem Tk.ne {n : Nat} (h : Tk True n) : n ≠ 0 := Nat.ne_of_gt (h trivial)
theorem Tk.no {n : Nat} : Tk False n := fun h => h.elim
abbrev tkProp {P : Prop} {n : Nat} (_ : Tk P n) : Prop := P
end
/-! text Mn1 -/
section
/-- all that stood at `h`, but at the addresses `ms`, stands at `h'` -/
noncomputable def Keeps (ms : List Addr) (h h' : Heap) : Prop := ∀ b o, h.get? b = some o → b ∉ ms → h'.get? b = some o
theorem Keeps.all {h h' : Heap} (k : Keeps [] h h') : ∀ b o, h.get? b = some o → h'.get? b = some o := fun b o e => k b o e (by simp)
theorem Keeps.refl (ms : List Addr) (h : Heap) : Keeps ms h h := fun _ _ e _ => e
theorem Keeps.trans {ms : List Addr} {a b c : Heap} (k : Keeps ms a b) (l : Keeps ms b c) : Keeps ms a c := fun x o e n => l x o (k x o e n) n

section
variable {h₀ h h' : Heap} {L r : Addr} {m : Str → Option Value} {led : List (Addr × Obj)} {o : Obj} {ms : List Addr}
theorem frAfter (F : Fr h₀ L h m) (N : News h₀ L h led) (hm : ∀ a ∈ ms, ∃ o, (a, o) ∈ led) (k : Keeps ms h h') : Fr h₀ L h' m := by
  obtain ⟨oL, es, ep, hL, hLd, hLk, hLf⟩ := F.ns
  have nL : L ∉ ms := fun q => by obtain ⟨x, hx⟩ := hm L q; exact (N _ hx).2.1 rfl
  refine ⟨⟨oL, es, ep, k L oL hL nL, hLd, hLk, hLf⟩, fun b x e => k b x (F.keep b x e) fun q => ?_, F.above⟩
  obtain ⟨y, hy⟩ := hm b q
  rw [(N _ hy).2.2] at e; cases e
theorem frAfter0 (F : Fr h₀ L h m) (k : Keeps [] h h') : Fr h₀ L h' m := frAfter F (led := []) News.nil (by simp) k
theorem newsAfter (N : News h₀ L h led) (hl : ∀ p ∈ led, p.1 ∉ ms) (k : Keeps ms h h') : News h₀ L h' led := fun p hp => ⟨k _ _ (N p hp).1 (hl p hp), (N p hp).2⟩
theorem newsAfter0 (N : News h₀ L h led) (k : Keeps [] h h') : News h₀ L h' led := newsAfter N (fun _ _ => by simp) k
theorem newsIn (F : Fr h₀ L h m) (hn : h.get? r = none) (ho : h'.get? r = some o) (N : News h₀ L h' led) : News h₀ L h' ((r, o) :: led) := by
  obtain ⟨oL, _, _, hL, _⟩ := F.ns
  intro p hp
  rcases List.mem_cons.mp hp with rfl | hp
  · refine ⟨ho, fun (q : r = L) => ?_, ?_⟩
    · rw [← q, hn] at hL; cases hL
    · show h₀.get? r = none
      cases q : h₀.get? r with
      | none => rfl
      | some x => have := F.keep _ _ q; rw [hn] at this; cases this
  · exact N p hp
noncomputable def AllNe (d : Nat) : List (Addr × Obj) → Prop
  | [] => True
  | p :: r => @Ne Nat p.1 d ∧ AllNe d r
theorem allNe_of : ∀ {led : List (Addr × Obj)}, News h₀ L h led → h.get? r = none → AllNe r led
  | [], _, _ => trivial
  | p :: _, N, hn => ⟨fun q => (by have := (N p (.head _)).1; rw [q, hn] at this; exact nomatch this), allNe_of (fun x hx => N x (.tail _ hx)) hn⟩
theorem AllNe.get {a d : Addr} {x : Obj} {led : List (Addr × Obj)} (h : AllNe d led) (hm : (a, x) ∈ led) : a ≠ d := by
  induction led with
  | nil => exact absurd hm (List.not_mem_nil)
  | cons p r ih =>
    rcases List.mem_cons.mp hm with e | e
    · have h1 := h.1
      rw [← e] at h1
      exact h1
    · exact ih h.2 e
/-- a fact that omega is not to look at -/
noncomputable def Shut (P : Prop) : Prop := P
theorem Shut.mk {P : Prop} (h : P) : Shut P := h
theorem Shut.out {P : Prop} (h : Shut P) : P := h
/-- an address that the callee made: it was nobody's before -/
theorem freshOf {g : Heap} {news led' : List (Addr × Obj)} {L' : Addr} {h'' : Heap} (k : Keeps (news.map (·.1)) h g) (N : News g L' h'' led') (hr : (r, o) ∈ led') (hl : ∀ p ∈ news, p.1 ≠ r) : h.get? r = none := by
  cases q : h.get? r with
  | none => rfl
  | some x =>
    have := k r x q fun z => by obtain ⟨y, hy, e⟩ := List.mem_map.mp z; exact hl y hy e
    rw [(N _ hr).2.2] at this; cases this
/-- what stood when the callee was entered stands when it is left -/
theorem keepsOf {g : Heap} {news led' : List (Addr × Obj)} {L' : Addr} {h'' : Heap} {m'' : Str → Option Value} (k : Keeps (news.map (·.1)) h g) (N₀ : News h₀ L h news) (F : Fr g L' h'' m'') (N : News g L' h'' led') (hs : ∀ p ∈ news, p ∈ led' ∨ p.1 ∈ ms) : Keeps ms h h'' := by
  intro b x e n
  by_cases hb : b ∈ news.map (·.1)
  · obtain ⟨y, hy, rfl⟩ := List.mem_map.mp hb
    have : x = y.2 := by have := (N₀ y hy).1; rw [e] at this; exact Option.some.inj this
    subst this
    rcases hs y hy with q | q
    · exact (N y q).1
    · exact absurd q n
  · exact F.keep _ _ (k b x e hb)
end

section
variable {prog : Program} {w : World} {A : Around} {s : Shared} {h₀ : Heap} {L : Addr} {m : Str → Option Value} {news : List (Addr × Obj)} {K : Frag} {p : Program} {loose : List Str} {mean : ExcName → Option Value} {mg mb : Str → Option Value}
  {R : Result → Shared → Prop} {name qual : Str} {params : Arguments} {body : List Stmt} {scope : Scope} {dV kV doc pm cdv ct oc : Value} {an od : Option Addr} {osl : Array (Option Value)} {f : Addr} {args : Args} {binds : List (Str × Value)}

theorem ground (F : Fr h₀ L s.heap m) (N : News h₀ L s.heap news) : h₀.StaysIn (hideAll s.heap (news.map (·.1))) := fun b o e => hideAll_get _ (F.keep b o e) fun q => by
  obtain ⟨x, hx, rfl⟩ := List.mem_map.mp q
  rw [(N x hx).2.2] at e; cases e

theorem enter (F : Fr h₀ L s.heap m) (X₀ : K.In h₀) (N : News h₀ L s.heap news) (T : Top p loose mean mg mb h₀)
    (ho : K.lookup f = some ⟨oc, od, .func (fnOf name qual params body scope dV kV doc pm an cdv ct), osl⟩) (hcd : codeIn K cdv qual = true) (hroom : A.depth < recursionLimit)
    (hbind : BindsTo s (fnOf name qual params body scope dV kV doc pm an cdv ct) args binds) (hloc : ∀ y ∈ binds, scope.names.lookup y.1 = some .local)
    (h : ∀ g L' h₁, Keeps (news.map (·.1)) s.heap g → s.heap.objs.size = L' → Fr g L' h₁ (fun y => binds.reverse.lookup y) → News g L' h₁ news → K.In g → Top p loose mean mg mb g → (∀ p ∈ news, p.1 < L') →
      wpAny (model prog w) (A.deeper (envOf qual scope L' f cdv)) (execs body (envOf qual scope L' f cdv))
        (fun fl s' => R (.ok (.ret (match fl with | .ret v => v | _ => .none))) s') (fun _ _ => False)
        { s with heap := h₁, toks := s.toks + binds.length })
    (hco : scope.isCoroutine = false) (hgen : scope.isGenerator = false) (hk : scope.kind = .function)
    (hcell : ∀ x ∈ scope.names, x.2 ≠ .cell) : codeAny (model prog w) A (.call (.ref f) args) R s := by
  have st := ground F N
  refine codeAny_call_def (fd := fnOf name qual params body scope dV kV doc pm an cdv ct) (body := body) (binds := binds) hroom ((X₀.keeps F.keep) _ _ ho) rfl (T.nolimit.keeps F.keep) (codeRec_of (X₀.keeps F.keep) hcd) rfl hbind hcell hloc (fun h₁ hns hk₁ => ?_) hco hgen hk
  exact wpAny_mono (h _ s.heap.objs.size h₁ (fun b o e n => hideAll_get _ e n) rfl ⟨hns, fun b o e => hk₁ b o (of_hideAll _ e), Nat.le_of_eq (hideAll_size _ _)⟩
    (fun p hp => ⟨hk₁ _ _ (N p hp).1, Nat.ne_of_lt (Heap.lt_size (N p hp).1), hideAll_none _ (List.mem_map_of_mem hp)⟩) (X₀.keeps st) (T.keeps st) (fun p hp => Heap.lt_size (N p hp).1)) (fun fl s' hl => hl) fun _ _ y => y.elim

theorem enterC (F : Fr h₀ L s.heap m) (X₀ : K.In h₀) (N : News h₀ L s.heap news) (T : Top p loose mean mg mb h₀)
    (ho : K.lookup f = some ⟨oc, od, .func (fnOf name qual params body scope dV kV doc pm an cdv ct), osl⟩) (hcd : codeIn K cdv qual = true) (hroom : A.depth < recursionLimit)
    (hbind : BindsTo s (fnOf name qual params body scope dV kV doc pm an cdv ct) args binds) (hkind : (binds.all fun y => scope.names.lookup y.1 == some .local || scope.names.lookup y.1 == some .cell) = true)
    (hnd : ((cellsFrom 0 scope.names []).map (·.1)).Nodup)
    (h : ∀ g L' h₁ tk cells, Keeps (news.map (·.1)) s.heap g → s.heap.objs.size = L' → Fr g L' h₁ (bindL (envOfC qual scope L' f cdv).kindOf binds fun _ => none) → News g L' h₁ (cells ++ news) →
      CellsAre (bindC (envOfC qual scope L' f cdv).kindOf binds fun _ => none) (cellsFrom (L' + 1) scope.names []) cells → K.In g → Top p loose mean mg mb g → (∀ p ∈ news, p.1 < L') →
      wpAny (model prog w) (A.deeper (envOfC qual scope L' f cdv)) (execs body (envOfC qual scope L' f cdv))
        (fun fl s' => R (.ok (.ret (match fl with | .ret v => v | _ => .none))) s') (fun _ _ => False)
        { s with heap := h₁, toks := tk })
    (hco : scope.isCoroutine = false) (hgen : scope.isGenerator = false) (hk : scope.kind = .function) : codeAny (model prog w) A (.call (.ref f) args) R s := by
  have st := ground F N
  refine codeAny_call_function hroom ((X₀.keeps F.keep) _ _ ho) rfl hco hgen rfl (codeRec_of (X₀.keeps F.keep) hcd) (hbind _ _ _ _ ?_)
  refine wpAny_newFunctionEnv_cells hk (kindsX hkind _) fun env' he s' x => ?_
  subst he
  refine ⟨(T.nolimit.keeps F.keep).keeps x.toInCall.keep, codeAny_func ?_⟩
  obtain ⟨h₁, tk, rfl, _⟩ := x.done
  have hk₁ := x.toInCall.keep
  obtain ⟨cells, NC, Y⟩ := Cl.news (h₀ := s.heap) (Nat.le_refl _) fun n c hm => ⟨x.cell n c (lookup_of_mem_nodup (cellsFrom_names scope.names 0 (s.heap.objs.size + 1) [] [] rfl ▸ hnd) hm), x.above n c hm⟩
  refine wpAny_mono (h _ s.heap.objs.size h₁ tk cells (fun b o e n => hideAll_get _ e n) rfl ⟨x.toInCall.ns, fun b o e => hk₁ b o (of_hideAll _ e), Nat.le_of_eq (hideAll_size _ _)⟩ (fun p hp => ?_) Y (X₀.keeps st) (T.keeps st) (fun p hp => Heap.lt_size (N p hp).1)) (fun fl s' hl => hl) fun _ _ y => y.elim
  rcases List.mem_append.mp hp with hp | hp
  · refine ⟨(NC p hp).1, (NC p hp).2.1, ?_⟩
    cases q : (hideAll s.heap (news.map (·.1))).get? p.1 with
    | none => rfl
    | some o => have := of_hideAll _ q; rw [(NC p hp).2.2] at this; cases this
  · exact ⟨hk₁ _ _ (N p hp).1, Nat.ne_of_lt (Heap.lt_size (N p hp).1), hideAll_none _ (List.mem_map_of_mem hp)⟩
end
end
/-! text Mn2 -/
section
noncomputable def ltF (x y : UInt64) : Bool := Float64.cmp x y == some .lt
noncomputable def max3F (x y z : UInt64) : UInt64 := if ltF (if ltF x y then y else x) z then z else if ltF x y then y else x
noncomputable def min3F (x y z : UInt64) : UInt64 := if ltF z (if ltF y x then y else x) then z else if ltF y x then y else x
section
variable {prog : Program} {w : World} {A : Around} {E : Value → Shared → Prop} {s : Shared} {Q : Value → Shared → Prop} {x y z : UInt64} {t u v : Tok}
theorem max3_ff (hh : A.handled = none)
    (h : ∀ h' tk k, Keeps [] s.heap h' → (∀ P, Tk P t → Tk P u → Tk P v → Tk P k) → Q (.float (max3F x y z) k) { s with heap := h', toks := tk }) :
    wpAny (model prog w) A (call (.builtin "max") [.float x t, .float y u, .float z v]) Q E s := by
  have hT : (s.heap.push { cls := .type "tuple", data := .seq #[.float x t, .float y u, .float z v] }).IsTuple s.heap.objs.size #[.float x t, .float y u, .float z v] := ⟨_, Heap.get?_push_size _ rfl, rfl, 0, rfl⟩
  refine call_max_three (wpAny_pyIter_tuple hT ?_)
  have hsz : (s.heap.push { cls := .type "tuple", data := .seq #[.float x t, .float y u, .float z v] }).objs.size = s.heap.objs.size + 1 := Heap.size_push ..
  refine ⟨_, [_, s.heap.objs.size], [_], _, _, _, _, rfl, Walks.tuple (A := A.in1) hh _ s.heap.objs.size (by rw [hsz]; exact Nat.ne_of_lt (Nat.lt_succ_self _)) #[.float x t, .float y u, .float z v],
    ⟨⟨_, Heap.get?_push_size _ rfl, rfl, rfl⟩, hT.push _⟩, fun c hc => ?_, by simp, Flt.cmpOf_gt #[.float x t, .float y u, .float z v] (by simp; exact ⟨.float x t, .float y u, .float z v⟩), fun r h' tk hP hk => ?_⟩
  · show c < ((s.heap.push _).push _).objs.size
    rw [Heap.size_push, hsz]
    rcases List.mem_cons.mp hc with rfl | hc
    · rw [hsz]; exact Nat.lt_succ_self _
    · rcases List.mem_cons.mp hc with rfl | hc
      · exact Nat.lt_succ_of_lt (Nat.lt_succ_self _)
      · cases hc
  · have hold : Keeps [] s.heap h' := fun c o e _ => by
      refine hk c o (fun hm => ?_) (Heap.get?_push_of_some _ (Heap.get?_push_of_some _ e))
      rcases List.mem_cons.mp hm with e1 | hm
      · have := Heap.lt_size e; rw [e1, hsz] at this; exact Nat.lt_irrefl _ (Nat.lt_of_succ_lt this)
      · cases hm
    have hv : ∃ k, r = .float (max3F x y z) k ∧ (∀ P, Tk P t → Tk P u → Tk P v → Tk P k) := by
      cases h1 : ltF x y <;> cases h2 : ltF x z <;> cases h3 : ltF y z <;> simp only [ltF] at h1 h2 h3 <;>
        simp [argBest, Flt.ltV, h1, h2, h3] at hP <;> (subst hP; refine ⟨_, by simp [max3F, ltF, h1, h2, h3]; rfl, ?_⟩; intro P a b c; assumption)
    obtain ⟨k, rfl, hk0⟩ := hv
    exact h h' tk k hold hk0
theorem min3_ff (hh : A.handled = none)
    (h : ∀ h' tk k, Keeps [] s.heap h' → (∀ P, Tk P t → Tk P u → Tk P v → Tk P k) → Q (.float (min3F x y z) k) { s with heap := h', toks := tk }) :
    wpAny (model prog w) A (call (.builtin "min") [.float x t, .float y u, .float z v]) Q E s := by
  have hT : (s.heap.push { cls := .type "tuple", data := .seq #[.float x t, .float y u, .float z v] }).IsTuple s.heap.objs.size #[.float x t, .float y u, .float z v] := ⟨_, Heap.get?_push_size _ rfl, rfl, 0, rfl⟩
  refine call_min_three (wpAny_pyIter_tuple hT ?_)
  have hsz : (s.heap.push { cls := .type "tuple", data := .seq #[.float x t, .float y u, .float z v] }).objs.size = s.heap.objs.size + 1 := Heap.size_push ..
  refine ⟨_, [_, s.heap.objs.size], [_], _, _, _, _, rfl, Walks.tuple (A := A.in1) hh _ s.heap.objs.size (by rw [hsz]; exact Nat.ne_of_lt (Nat.lt_succ_self _)) #[.float x t, .float y u, .float z v],
    ⟨⟨_, Heap.get?_push_size _ rfl, rfl, rfl⟩, hT.push _⟩, fun c hc => ?_, by simp, Flt.cmpOf_lt #[.float x t, .float y u, .float z v] (by simp; exact ⟨.float x t, .float y u, .float z v⟩), fun r h' tk hP hk => ?_⟩
  · show c < ((s.heap.push _).push _).objs.size
    rw [Heap.size_push, hsz]
    rcases List.mem_cons.mp hc with rfl | hc
    · rw [hsz]; exact Nat.lt_succ_self _
    · rcases List.mem_cons.mp hc with rfl | hc
      · exact Nat.lt_succ_of_lt (Nat.lt_succ_self _)
      · cases hc
  · have hold : Keeps [] s.heap h' := fun c o e _ => by
      refine hk c o (fun hm => ?_) (Heap.get?_push_of_some _ (Heap.get?_push_of_some _ e))
      rcases List.mem_cons.mp hm with e1 | hm
      · have := Heap.lt_size e; rw [e1, hsz] at this; exact Nat.lt_irrefl _ (Nat.lt_of_succ_lt this)
      · cases hm
    have hv : ∃ k, r = .float (min3F x y z) k ∧ (∀ P, Tk P t → Tk P u → Tk P v → Tk P k) := by
      cases h1 : ltF y x <;> cases h2 : ltF z x <;> cases h3 : ltF z y <;> simp only [ltF] at h1 h2 h3 <;>
        simp [argBest, Flt.ltV, h1, h2, h3] at hP <;> (subst hP; refine ⟨_, by simp [min3F, ltF, h1, h2, h3]; rfl, ?_⟩; intro P a b c; assumption)
    obtain ⟨k, rfl, hk0⟩ := hv
    exact h h' tk k hold hk0
end
end
local macro_rules | `(tactic| walk_at $s:str) => `(tactic| k_extra $s)
local macro_rules | `(tactic| k_all) => `(tactic| first | exact List.forall_mem_nil _ | (refine' List.forall_mem_cons.mpr ⟨?a, ?b⟩; (case a => k_ne); (case b => k_all)))
/-! text Mn3 -/
section
/-- the machine's program -/
abbrev PG : Program := PySem.Challenge.rw_ph0126_01.row.prog

noncomputable def eqF (x y : UInt64) : Bool := Float64.cmp x y == some .eq
/-- the floats that rgb_to_hsv tells -/
noncomputable def hueF (r g b : UInt64) : UInt64 :=
  if eqF (min3F r g b) (max3F r g b) then 0 else
  (Float64.divmod (Float64.div
    (if eqF r (max3F r g b) then
        Float64.sub (Float64.div (Float64.sub (max3F r g b) b) (Float64.sub (max3F r g b) (min3F r g b))) (Float64.div (Float64.sub (max3F r g b) g) (Float64.sub (max3F r g b) (min3F r g b)))
      else if eqF g (max3F r g b) then
        Float64.sub (Float64.add 4611686018427387904 (Float64.div (Float64.sub (max3F r g b) r) (Float64.sub (max3F r g b) (min3F r g b)))) (Float64.div (Float64.sub (max3F r g b) b) (Float64.sub (max3F r g b) (min3F r g b)))
      else
        Float64.sub (Float64.add 4616189618054758400 (Float64.div (Float64.sub (max3F r g b) g) (Float64.sub (max3F r g b) (min3F r g b)))) (Float64.div (Float64.sub (max3F r g b) r) (Float64.sub (max3F r g b) (min3F r g b))))
    4618441417868443648) 4607182418800017408).2
noncomputable def satF (r g b : UInt64) : UInt64 := if eqF (min3F r g b) (max3F r g b) then 0 else Float64.div (Float64.sub (max3F r g b) (min3F r g b)) (max3F r g b)
noncomputable def hsvOk (r g b : UInt64) : Bool := eqF (min3F r g b) (max3F r g b) || (!Float64.isZero (max3F r g b) && !Float64.isZero (Float64.sub (max3F r g b) (min3F r g b)))

abbrev tupO (vs : List Value) : Obj := { cls := .type "tuple", data := .seq vs.toArray }
abbrev lstO (vs : List Value) : Obj := { cls := .type "list", data := .seq vs.toArray }

theorem linesMn3x1 : True := by
  k_with_none
  k_with "mine enter" => ((refine' enter ?k2z1 ?k3z1 ?k4z1 ?k5z1 ?k6z1 ?k7z1 ?k8z1 ?k9z1 ?kBz1 ?_ ?c2z1 ?c3z1 ?c4z1 ?c5z1; (case k2z1 => k_asm); (case k3z1 => k_asm); (case k4z1 => k_asm); (case k5z1 => k_asm); (case k6z1 => k_is); (case k7z1 => k_is); (case k8z1 => ktr_room); (case k9z1 => exact BindsTo.of_eq rfl); (case c5z1 => decide); (case kBz1 => exact locs rfl); (case c2z1 => exact rfl); (case c3z1 => exact rfl); (case c4z1 => exact rfl); k_whole))
  k_with "mine keeps" => (((with_reducible rename Keeps _ _ _ => kK); (have F' := frAfter0 (by k_asm) kK); (have N' := newsAfter0 (by k_asm) kK); clear kK; (try k_sweep)))
  k_with "call builtin:max" => (((with_reducible show wpAny _ _ (call _ [Value.float _ _, Value.float _ _, Value.float _ _]) _ _ _); refine max3_ff rfl ?_; intro h' tk' k' K' hnz'; (have hnz' := hnz' _ (by walk_at "mine tk") (by walk_at "mine tk") (by walk_at "mine tk")); walk_at "mine keeps"))
  k_with "call builtin:min" => (((with_reducible show wpAny _ _ (call _ [Value.float _ _, Value.float _ _, Value.float _ _]) _ _ _); refine min3_ff rfl ?_; intro h' tk' k' K' hnz'; (have hnz' := hnz' _ (by walk_at "mine tk") (by walk_at "mine tk") (by walk_at "mine tk")); walk_at "mine keeps"))
  trivial

variable {pg : Program} {lz : List Str} {w : World} {mean : ExcName → Option Value} {mg mb : Str → Option Value}
   {dp un : Nat} {gd : Option (List Code)} {cn : Str} {cs : Scope} {a : Addr} {ccd : Value} {cl : List (Str × Addr)} {outer : List Env} {h₀ : Heap} {L : Addr} {m : Str → Option Value} {s : Shared} {Q E : Value → Shared → Prop}
theorem linesMn3x2 : True := by
  k_with "exec Assign" => (((fail_if_success (with_reducible show wpAny _ _ _ (UpQ _ _) _ _)); refine wpUp (by walk_at "mine tk") ?_))
  k_with "execs cons" => (((with_reducible show wpAny _ _ _ _ _ (Shared.mk _ _ _ (HAdd.hAdd _ _) _)); (refine genTk (by walk_at "mine tk") ?_); intro tk' hTk'; (try dsimp only)))
  k_with "UpQ" => ((refine UpQ.mk ?_; intro hTk'; (try dsimp only at hTk'); (try dsimp only)))
  k_with "mine tk" => (((try dsimp only); first | with_reducible assumption | exact Tk.add _ (by with_reducible assumption) | exact Tk.add _ (Tk.add _ (by with_reducible assumption)) | exact Tk.add _ (Tk.add _ (Tk.add _ (by with_reducible assumption))) | exact Tk.succ | fail "mine: tk"))
  trivial
theorem hsv_ok' {Z : Prop} {r g b : UInt64} {t1 t2 t3 : Tok}
   (F : Fr h₀ L s.heap m) (X : (Mine.hd.heap_1 w.params).In h₀) (T : Top pg lz mean mg mb h₀)
   (hd : dp + 1 < recursionLimit) (q0 : Tk Z s.toks) (q1 : Tk Z t1) (q2 : Tk Z t2) (q3 : Tk Z t3) (hok : hsvOk r g b = true)
   (hret : ∀ (v : Addr) (h' : Heap) (tk' : Nat) (u1 u2 u3 : Tok) (x y z : UInt64), Tk Z u1 ∧ Tk Z u2 ∧ Tk Z u3 → x = hueF r g b → y = satF r g b → z = max3F r g b → Keeps [] s.heap h' → s.heap.get? v = none → h'.get? v = some (tupO [.float x u1, .float y u2, .float z u3]) → Q (.ref v) { s with heap := h', toks := tk' }) :
   wpAny (model PySem.Challenge.rw_ph0126_01.row.prog w) (ktrTop dp un gd cn cs L a ccd cl outer) (call (.ref 84) [.float r t1, .float g t2, .float b t3]) Q E s := by
  revert X; k_fill; intro X
  have N : News h₀ L s.heap [] := News.nil
  refine wpAny_call ?_
  k_dflt (walk_at "mine enter")
  intro g' L' h' K' hL' F' N' X' T' l'
  (try dsimp only); (try k_fold)
  k_steps
  all_goals first
    | (rename News _ _ _ _ => N'; rename Fr _ _ _ _ => F'
       have k1 := keepsOf (ms := []) K' N F' N' (by simp)
       have k2 := freshOf K' N' (.head _) (by simp)
       have k3 := (N' _ (.head _)).1
       refine hret _ _ _ _ _ _ _ _ _ ?_ ?_ ?_ rfl k1 k2 k3
       · clear hret k1 k2 k3 F' N' hok
         refine ⟨?_, ?_, ?_⟩ <;> walk_at "mine tk"
       all_goals (clear hret k1 k2 k3 F' N' hok; simp [hueF, satF, eqF, *]; done))
    | (exfalso; clear hret; simp_all [hsvOk, eqF]; done)
theorem hsv_okT {Z : Prop} {r g b : UInt64} {t1 t2 t3 : Tok}
   (F : Fr h₀ L s.heap m) (X : (Mine.hd.heap_1 w.params).In h₀) (T : Top pg lz mean mg mb h₀)
   (hd : dp + 1 < recursionLimit) (q0 : Tk Z s.toks) (q1 : Tk Z t1) (q2 : Tk Z t2) (q3 : Tk Z t3) (hok : hsvOk r g b = true)
   (hret : ∀ (v : Addr) (h' : Heap) (tk' : Nat) (u1 u2 u3 : Tok), Tk Z u1 ∧ Tk Z u2 ∧ Tk Z u3 → Keeps [] s.heap h' → s.heap.get? v = none → h'.get? v = some (tupO [.float (hueF r g b) u1, .float (satF r g b) u2, .float (max3F r g b) u3]) → Q (.ref v) { s with heap := h', toks := tk' }) :
   wpAny (model PySem.Challenge.rw_ph0126_01.row.prog w) (ktrTop dp un gd cn cs L a ccd cl outer) (call (.ref 84) [.float r t1, .float g t2, .float b t3]) Q E s :=
  hsv_ok' F X T hd q0 q1 q2 q3 hok fun v h' tk' u1 u2 u3 x y z e0 e1 e2 e3 k1 k2 k3 => hret v h' tk' u1 u2 u3 e0 k1 k2 (by rw [k3, e1, e2, e3])
end
local macro_rules | `(tactic| k_ne) => `(tactic| ((with_reducible rename AllNe _ _ => kAN); (try dsimp only); first | exact neN (AllNe.get (by with_reducible assumption) (by k_mem)) | exact neN (Ne.symm (AllNe.get (by with_reducible assumption) (by k_mem))) | fail "mine: ne"))
/-! text Mn4 -/
section
theorem linesMn4x1 : True := by
  k_with_none
  k_with "mine enter" => ((refine' enter ?k2z9 ?k3z9 ?k4z9 ?k5z9 ?k6z9 ?k7z9 ?k8z9 ?k9z9 ?kBz9 ?_ ?c2z9 ?c3z9 ?c4z9 ?c5z9; (case k2z9 => k_asm); (case k3z9 => k_asm); (case k4z9 => k_asm); (case k5z9 => k_asm); (case k6z9 => k_is); (case k7z9 => k_is); (case k8z9 => ktr_room); (case k9z9 => exact BindsTo.of_eq rfl); (case c5z9 => decide); (case kBz9 => exact locs rfl); (case c2z9 => exact rfl); (case c3z9 => exact rfl); (case c4z9 => exact rfl); k_whole))
  k_with "mine keeps" => (((with_reducible rename Keeps _ _ _ => kK); (have F' := frAfter0 (by k_asm) kK); (have N' := newsAfter0 (by k_asm) kK); clear kK; (try k_sweep)))
  k_with "mine made" => (((with_reducible rename Keeps _ _ _ => kK); rename (Heap.get? _ _ = none) => kn; rename (Heap.get? _ _ = some _) => ks; (have l1 := allNe_of (by k_asm) kn); (have N' := newsIn (by k_asm) kn ks (newsAfter0 (by k_asm) kK)); (have F' := frAfter0 (by k_asm) kK); clear kK kn ks; (try k_sweep)))
  trivial
variable {pg : Program} {lz : List Str} {w : World} {mean : ExcName → Option Value} {mg mb : Str → Option Value}
   {dp un : Nat} {gd : Option (List Code)} {cn : Str} {cs : Scope} {a : Addr} {ccd : Value} {cl : List (Str × Addr)} {outer : List Env} {h₀ : Heap} {L : Addr} {m : Str → Option Value} {s : Shared} {Q E : Value → Shared → Prop}
noncomputable def dF (x : Int) : UInt64 := Float64.ofFrac false x.toNat 16
theorem div16 {prog : Program} {A : Around} {x : Int} {t u : Tok} (hA : A.handled = none) (hx : 0 ≤ x ∧ x ≤ 12) (h : Q (.float (dF x) s.toks) { s with toks := s.toks + 1 }) :
    wpAny (model prog w) A (binaryOp .Div (.int x t) (.int 16 u)) Q E s := by
  have e : Float64.ofFrac (decide (x < 0) != decide ((16 : Int) < 0)) x.natAbs (Int.natAbs 16) = dF x := by
    have h1 : decide (x < 0) = false := decide_eq_false (by omega)
    have h2 : x.natAbs = x.toNat := by omega
    rw [h1, h2]; rfl
  exact Flt.div_ii_fits hA (by have : x.natAbs < 2 ^ 4 := by omega
                               exact Nat.lt_of_lt_of_le this (Nat.pow_le_pow_right (by decide) (by decide))) (fun h => by cases h) (fun _ _ => by rw [e]; exact h)
theorem linesMn4x2 : True := by
  k_with "binaryOp Div int int" => (((with_reducible show wpAny _ _ (binaryOp _ (Value.int _ _) (Value.int 16 _)) _ _ _); refine div16 rfl (by (try simp); omega) ?_; (try dsimp only)))
  k_with "exec Assign" => (((fail_if_success (with_reducible show wpAny _ _ _ (UpQ _ _) _ _)); refine wpUp (by walk_at "mine tk") ?_))
  k_with "execs cons" => (((with_reducible show wpAny _ _ _ _ _ (Shared.mk _ _ _ (HAdd.hAdd _ _) _)); (refine genTk (by walk_at "mine tk") ?_); intro tk' hTk'; (try dsimp only)))
  k_with "UpQ" => ((refine UpQ.mk ?_; intro hTk'; (try dsimp only at hTk'); (try dsimp only)))
  k_with "mine tk" => (((try dsimp only); first | with_reducible assumption | ((repeat (with_reducible refine Tk.add _ ?_)); with_reducible assumption) | exact Tk.succ | fail "mine: tk"))
  k_with "call ref" => ((k_dflt ((with_reducible rename Tk _ _ => kTk); refine' hsv_okT (Z := tkProp kTk) ?k1z17 ?k2z17 ?k3z17 ?k4z17 ?q0z17 ?q1z17 ?q2z17 ?q3z17 ?k5z17 ?_; (case q0z17 => walk_at "mine tk"); (case k1z17 => k_asm); (case k2z17 => k_asm); (case k3z17 => k_asm); (case k4z17 => ktr_room); (case k5z17 => assumption); (case q1z17 => walk_at "mine tk"); (case q2z17 => walk_at "mine tk"); (case q3z17 => walk_at "mine tk"); intro v' h' tk' u1' u2' u3' hTk' K' n' g'; walk_at "mine made")))
  trivial
theorem toldL_ok {Z : Prop} {x y z n : Int} {la d : Addr} {t1 t2 t3 t4 : Tok}
   (F : Fr h₀ L s.heap m) (X : (Mine.hd.heap_1 w.params).In h₀) (T : Top pg lz mean mg mb h₀)
   (N : News h₀ L s.heap [(la, lstO [.int x t1, .int y t2, .int z t3])])
   (hd : dp + 2 < recursionLimit) (q0 : Tk Z s.toks) (hx : 0 ≤ x ∧ x ≤ 12 ∧ 0 ≤ y ∧ y ≤ 12 ∧ 0 ≤ z ∧ z ≤ 12) (hok : hsvOk (dF x) (dF y) (dF z) = true)
   (hret : ∀ (v : Addr) (h' : Heap) (tk' : Nat) (u1 u2 u3 : Tok), Tk Z u1 ∧ Tk Z u2 ∧ Tk Z u3 → Keeps [] s.heap h' → s.heap.get? v = none → h'.get? v = some (tupO [.float (hueF (dF x) (dF y) (dF z)) u1, .float (satF (dF x) (dF y) (dF z)) u2, .float (max3F (dF x) (dF y) (dF z)) u3]) → Q (.ref v) { s with heap := h', toks := tk' }) :
   wpAny (model PySem.Challenge.rw_ph0126_01.row.prog w) (ktrTop dp un gd cn cs L a ccd cl outer) (call (.ref 98) [.ref la]) Q E s := by
  revert X; k_fill; intro X
  refine wpAny_call ?_
  k_dflt (walk_at "mine enter")
  intro g' L' h' K' hL' F' N' X' T' l'
  (try dsimp only); (try k_fold)
  k_steps
  rename News _ _ _ _ => N'; rename Fr _ _ _ _ => F'
  exact hret _ _ _ _ _ _ (by with_reducible assumption) (keepsOf K' N F' N' (by simp)) (freshOf K' N' (.head _) (by k_all)) (N' _ (.head _)).1
theorem toldT_okT {Z : Prop} {x y z n : Int} {la d : Addr} {t1 t2 t3 t4 : Tok}
   (F : Fr h₀ L s.heap m) (X : (Mine.hd.heap_1 w.params).In h₀) (T : Top pg lz mean mg mb h₀)
   (N : News h₀ L s.heap [(la, tupO [.int x t1, .int y t2, .int z t3, .int n t4, .ref d])])
   (hd : dp + 2 < recursionLimit) (q0 : Tk Z s.toks) (hx : 0 ≤ x ∧ x ≤ 12 ∧ 0 ≤ y ∧ y ≤ 12 ∧ 0 ≤ z ∧ z ≤ 12) (hok : hsvOk (dF x) (dF y) (dF z) = true)
   (hret : ∀ (v : Addr) (h' : Heap) (tk' : Nat) (u1 u2 u3 : Tok), Tk Z u1 ∧ Tk Z u2 ∧ Tk Z u3 → Keeps [] s.heap h' → s.heap.get? v = none → h'.get? v = some (tupO [.float (hueF (dF x) (dF y) (dF z)) u1, .float (satF (dF x) (dF y) (dF z)) u2, .float (max3F (dF x) (dF y) (dF z)) u3]) → Q (.ref v) { s with heap := h', toks := tk' }) :
   wpAny (model PySem.Challenge.rw_ph0126_01.row.prog w) (ktrTop dp un gd cn cs L a ccd cl outer) (call (.ref 98) [.ref la]) Q E s := by
  revert X; k_fill; intro X
  refine wpAny_call ?_
  k_dflt (walk_at "mine enter")
  intro g' L' h' K' hL' F' N' X' T' l'
  (try dsimp only); (try k_fold)
  k_steps
  rename News _ _ _ _ => N'; rename Fr _ _ _ _ => F'
  exact hret _ _ _ _ _ _ (by with_reducible assumption) (keepsOf K' N F' N' (by simp)) (freshOf K' N' (.head _) (by k_all)) (N' _ (.head _)).1
theorem toldT_ok {x y z n : Int} {la d : Addr} {t1 t2 t3 t4 : Tok}
   (F : Fr h₀ L s.heap m) (X : (Mine.hd.heap_1 w.params).In h₀) (T : Top pg lz mean mg mb h₀)
   (N : News h₀ L s.heap [(la, tupO [.int x t1, .int y t2, .int z t3, .int n t4, .ref d])])
   (hd : dp + 2 < recursionLimit) (hx : 0 ≤ x ∧ x ≤ 12 ∧ 0 ≤ y ∧ y ≤ 12 ∧ 0 ≤ z ∧ z ≤ 12) (hok : hsvOk (dF x) (dF y) (dF z) = true)
   (hret : ∀ (v : Addr) (h' : Heap) (tk' : Nat) (u1 u2 u3 : Tok), Keeps [] s.heap h' → s.heap.get? v = none → h'.get? v = some (tupO [.float (hueF (dF x) (dF y) (dF z)) u1, .float (satF (dF x) (dF y) (dF z)) u2, .float (max3F (dF x) (dF y) (dF z)) u3]) → Q (.ref v) { s with heap := h', toks := tk' }) :
   wpAny (model PySem.Challenge.rw_ph0126_01.row.prog w) (ktrTop dp un gd cn cs L a ccd cl outer) (call (.ref 98) [.ref la]) Q E s :=
  toldT_okT (Z := False) F X T N hd Tk.no hx hok fun v h' tk' u1 u2 u3 _ => hret v h' tk' u1 u2 u3
end
/-! text Mn5 -/
section
theorem linesMn5x1 : True := by
  k_with_none
  k_with "mine enter" => ((refine' enter ?k2z18 ?k3z18 ?k4z18 ?k5z18 ?k6z18 ?k7z18 ?k8z18 ?k9z18 ?kBz18 ?_ ?c2z18 ?c3z18 ?c4z18 ?c5z18; (case k2z18 => k_asm); (case k3z18 => k_asm); (case k4z18 => k_asm); (case k5z18 => k_asm); (case k6z18 => k_is); (case k7z18 => k_is); (case k8z18 => ktr_room); (case k9z18 => exact BindsTo.of_eq rfl); (case c5z18 => decide); (case kBz18 => exact locs rfl); (case c2z18 => exact rfl); (case c3z18 => exact rfl); (case c4z18 => exact rfl); k_whole))
  k_with "mine keeps" => (((with_reducible rename Keeps _ _ _ => kK); (have F' := frAfter0 (by k_asm) kK); (have N' := newsAfter0 (by k_asm) kK); clear kK; (try k_sweep)))
  k_with "mine made" => (((with_reducible rename Keeps _ _ _ => kK); rename (Heap.get? _ _ = none) => kn; rename (Heap.get? _ _ = some _) => ks; (have l1 := allNe_of (by k_asm) kn); (have N' := newsIn (by k_asm) kn ks (newsAfter0 (by k_asm) kK)); (have F' := frAfter0 (by k_asm) kK); clear kK kn ks; (try k_sweep)))
  trivial
variable {pg : Program} {lz : List Str} {w : World} {mean : ExcName → Option Value} {mg mb : Str → Option Value}
   {dp un : Nat} {gd : Option (List Code)} {cn : Str} {cs : Scope} {a : Addr} {ccd : Value} {cl : List (Str × Addr)} {outer : List Env} {h₀ : Heap} {L : Addr} {m : Str → Option Value} {s : Shared} {Q E : Value → Shared → Prop}
theorem addc11 {k0 k1 p q p' q' : Int} {da db : Addr} {oa ob : Obj} {t1 t2 t3 t4 : Tok}
   (F : Fr h₀ L s.heap m) (X : (Mine.hd.heap_1 w.params).In h₀) (T : Top pg lz mean mg mb h₀)
   (N : News h₀ L s.heap [(da, oa), (db, ob)]) (hk : k0 ≠ k1) (hne : da ≠ db)
   (lo1 : (da == sysModules) = false) (lo2 : (db == sysModules) = false)
   (h1 : oa.IsDictOf (PySem.intKind PG w) [(k0, .int p t1)]) (f1 : PyProof.V.FlatPairs PyData.int [(k0, .int p t1)] [(PyData.int k0, PyData.int p)])
   (h2 : ob.IsDictOf (PySem.intKind PG w) [(k1, .int q' t4)]) (f2 : PyProof.V.FlatPairs PyData.int [(k1, .int q' t4)] [(PyData.int k1, PyData.int q')])
   (hd : dp + 2 < recursionLimit) (hx : 0 ≤ p ∧ p ≤ 1000 ∧ 0 ≤ q ∧ q ≤ 1000 ∧ 0 ≤ p' ∧ p' ≤ 1000 ∧ 0 ≤ q' ∧ q' ≤ 1000)
   (hret : ∀ (v : Addr) (ov : Obj) (h' : Heap) (tk' : Nat) (u1 u2 : Tok), Keeps [] s.heap h' → s.heap.get? v = none → h'.get? v = some ov → (v == sysModules) = false → ov.IsDictOf (PySem.intKind PG w) [(k0, .int (p) u1), (k1, .int (q') u2)] → Q (.ref v) { s with heap := h', toks := tk' }) :
   wpAny (model PySem.Challenge.rw_ph0126_01.row.prog w) (ktrTop dp un gd cn cs L a ccd cl outer) (call (.ref 28) [.ref da, .ref db]) Q E s := by
  revert X; k_fill; intro X
  refine wpAny_call ?_
  k_dflt (walk_at "mine enter")
  intro g' L' h' K' hL' F' N' X' T' l'
  (try dsimp only); (try k_fold)
  k_steps
  rename News _ _ _ _ => N'; rename Fr _ _ _ _ => F'; rename Obj.IsDictOf (PySem.intKind _ _) _ _ => D'
  simp only [stored, List.any_cons, List.any_nil, List.nil_append, List.map_cons, List.map_nil, List.cons_append, hk, hk.symm, Bool.or_false, Bool.false_or, Bool.or_true, Bool.true_or, decide_true, decide_false, if_true, if_false, Bool.false_eq_true, reduceIte] at D'
  refine hret _ _ _ _ _ _ (keepsOf K' N F' N' ?_) (freshOf K' N' (.head _) ?_) (N' _ (.head _)).1 (by assumption) D'
  · intro p hp; exact .inl (by simp only [List.mem_cons, List.not_mem_nil, or_false] at hp ⊢; rcases hp with rfl | rfl <;> simp)
  · intro p hp; simp only [List.mem_cons, List.not_mem_nil, or_false] at hp; rcases hp with rfl | rfl <;> k_ne
theorem addc12 {k0 k1 p q p' q' : Int} {da db : Addr} {oa ob : Obj} {t1 t2 t3 t4 : Tok}
   (F : Fr h₀ L s.heap m) (X : (Mine.hd.heap_1 w.params).In h₀) (T : Top pg lz mean mg mb h₀)
   (N : News h₀ L s.heap [(da, oa), (db, ob)]) (hk : k0 ≠ k1) (hne : da ≠ db)
   (lo1 : (da == sysModules) = false) (lo2 : (db == sysModules) = false)
   (h1 : oa.IsDictOf (PySem.intKind PG w) [(k0, .int p t1)]) (f1 : PyProof.V.FlatPairs PyData.int [(k0, .int p t1)] [(PyData.int k0, PyData.int p)])
   (h2 : ob.IsDictOf (PySem.intKind PG w) [(k0, .int p' t3), (k1, .int q' t4)]) (f2 : PyProof.V.FlatPairs PyData.int [(k0, .int p' t3), (k1, .int q' t4)] [(PyData.int k0, PyData.int p'), (PyData.int k1, PyData.int q')])
   (hd : dp + 2 < recursionLimit) (hx : 0 ≤ p ∧ p ≤ 1000 ∧ 0 ≤ q ∧ q ≤ 1000 ∧ 0 ≤ p' ∧ p' ≤ 1000 ∧ 0 ≤ q' ∧ q' ≤ 1000)
   (hret : ∀ (v : Addr) (ov : Obj) (h' : Heap) (tk' : Nat) (u1 u2 : Tok), Keeps [] s.heap h' → s.heap.get? v = none → h'.get? v = some ov → (v == sysModules) = false → ov.IsDictOf (PySem.intKind PG w) [(k0, .int (p + p') u1), (k1, .int (q') u2)] → Q (.ref v) { s with heap := h', toks := tk' }) :
   wpAny (model PySem.Challenge.rw_ph0126_01.row.prog w) (ktrTop dp un gd cn cs L a ccd cl outer) (call (.ref 28) [.ref da, .ref db]) Q E s := by
  revert X; k_fill; intro X
  refine wpAny_call ?_
  k_dflt (walk_at "mine enter")
  intro g' L' h' K' hL' F' N' X' T' l'
  (try dsimp only); (try k_fold)
  k_steps
  rename News _ _ _ _ => N'; rename Fr _ _ _ _ => F'; rename Obj.IsDictOf (PySem.intKind _ _) _ _ => D'
  simp only [stored, List.any_cons, List.any_nil, List.nil_append, List.map_cons, List.map_nil, List.cons_append, hk, hk.symm, Bool.or_false, Bool.false_or, Bool.or_true, Bool.true_or, decide_true, decide_false, if_true, if_false, Bool.false_eq_true, reduceIte] at D'
  refine hret _ _ _ _ _ _ (keepsOf K' N F' N' ?_) (freshOf K' N' (.head _) ?_) (N' _ (.head _)).1 (by assumption) D'
  · intro p hp; exact .inl (by simp only [List.mem_cons, List.not_mem_nil, or_false] at hp ⊢; rcases hp with rfl | rfl <;> simp)
  · intro p hp; simp only [List.mem_cons, List.not_mem_nil, or_false] at hp; rcases hp with rfl | rfl <;> k_ne
theorem addc21 {k0 k1 p q p' q' : Int} {da db : Addr} {oa ob : Obj} {t1 t2 t3 t4 : Tok}
   (F : Fr h₀ L s.heap m) (X : (Mine.hd.heap_1 w.params).In h₀) (T : Top pg lz mean mg mb h₀)
   (N : News h₀ L s.heap [(da, oa), (db, ob)]) (hk : k0 ≠ k1) (hne : da ≠ db)
   (lo1 : (da == sysModules) = false) (lo2 : (db == sysModules) = false)
   (h1 : oa.IsDictOf (PySem.intKind PG w) [(k0, .int p t1), (k1, .int q t2)]) (f1 : PyProof.V.FlatPairs PyData.int [(k0, .int p t1), (k1, .int q t2)] [(PyData.int k0, PyData.int p), (PyData.int k1, PyData.int q)])
   (h2 : ob.IsDictOf (PySem.intKind PG w) [(k1, .int q' t4)]) (f2 : PyProof.V.FlatPairs PyData.int [(k1, .int q' t4)] [(PyData.int k1, PyData.int q')])
   (hd : dp + 2 < recursionLimit) (hx : 0 ≤ p ∧ p ≤ 1000 ∧ 0 ≤ q ∧ q ≤ 1000 ∧ 0 ≤ p' ∧ p' ≤ 1000 ∧ 0 ≤ q' ∧ q' ≤ 1000)
   (hret : ∀ (v : Addr) (ov : Obj) (h' : Heap) (tk' : Nat) (u1 u2 : Tok), Keeps [] s.heap h' → s.heap.get? v = none → h'.get? v = some ov → (v == sysModules) = false → ov.IsDictOf (PySem.intKind PG w) [(k0, .int (p) u1), (k1, .int (q + q') u2)] → Q (.ref v) { s with heap := h', toks := tk' }) :
   wpAny (model PySem.Challenge.rw_ph0126_01.row.prog w) (ktrTop dp un gd cn cs L a ccd cl outer) (call (.ref 28) [.ref da, .ref db]) Q E s := by
  revert X; k_fill; intro X
  refine wpAny_call ?_
  k_dflt (walk_at "mine enter")
  intro g' L' h' K' hL' F' N' X' T' l'
  (try dsimp only); (try k_fold)
  k_steps
  rename News _ _ _ _ => N'; rename Fr _ _ _ _ => F'; rename Obj.IsDictOf (PySem.intKind _ _) _ _ => D'
  simp only [stored, List.any_cons, List.any_nil, List.nil_append, List.map_cons, List.map_nil, List.cons_append, hk, hk.symm, Bool.or_false, Bool.false_or, Bool.or_true, Bool.true_or, decide_true, decide_false, if_true, if_false, Bool.false_eq_true, reduceIte] at D'
  refine hret _ _ _ _ _ _ (keepsOf K' N F' N' ?_) (freshOf K' N' (.head _) ?_) (N' _ (.head _)).1 (by assumption) D'
  · intro p hp; exact .inl (by simp only [List.mem_cons, List.not_mem_nil, or_false] at hp ⊢; rcases hp with rfl | rfl <;> simp)
  · intro p hp; simp only [List.mem_cons, List.not_mem_nil, or_false] at hp; rcases hp with rfl | rfl <;> k_ne
theorem addc22 {k0 k1 p q p' q' : Int} {da db : Addr} {oa ob : Obj} {t1 t2 t3 t4 : Tok}
   (F : Fr h₀ L s.heap m) (X : (Mine.hd.heap_1 w.params).In h₀) (T : Top pg lz mean mg mb h₀)
   (N : News h₀ L s.heap [(da, oa), (db, ob)]) (hk : k0 ≠ k1) (hne : da ≠ db)
   (lo1 : (da == sysModules) = false) (lo2 : (db == sysModules) = false)
   (h1 : oa.IsDictOf (PySem.intKind PG w) [(k0, .int p t1), (k1, .int q t2)]) (f1 : PyProof.V.FlatPairs PyData.int [(k0, .int p t1), (k1, .int q t2)] [(PyData.int k0, PyData.int p), (PyData.int k1, PyData.int q)])
   (h2 : ob.IsDictOf (PySem.intKind PG w) [(k0, .int p' t3), (k1, .int q' t4)]) (f2 : PyProof.V.FlatPairs PyData.int [(k0, .int p' t3), (k1, .int q' t4)] [(PyData.int k0, PyData.int p'), (PyData.int k1, PyData.int q')])
   (hd : dp + 2 < recursionLimit) (hx : 0 ≤ p ∧ p ≤ 1000 ∧ 0 ≤ q ∧ q ≤ 1000 ∧ 0 ≤ p' ∧ p' ≤ 1000 ∧ 0 ≤ q' ∧ q' ≤ 1000)
   (hret : ∀ (v : Addr) (ov : Obj) (h' : Heap) (tk' : Nat) (u1 u2 : Tok), Keeps [] s.heap h' → s.heap.get? v = none → h'.get? v = some ov → (v == sysModules) = false → ov.IsDictOf (PySem.intKind PG w) [(k0, .int (p + p') u1), (k1, .int (q + q') u2)] → Q (.ref v) { s with heap := h', toks := tk' }) :
   wpAny (model PySem.Challenge.rw_ph0126_01.row.prog w) (ktrTop dp un gd cn cs L a ccd cl outer) (call (.ref 28) [.ref da, .ref db]) Q E s := by
  revert X; k_fill; intro X
  refine wpAny_call ?_
  k_dflt (walk_at "mine enter")
  intro g' L' h' K' hL' F' N' X' T' l'
  (try dsimp only); (try k_fold)
  k_steps
  rename News _ _ _ _ => N'; rename Fr _ _ _ _ => F'; rename Obj.IsDictOf (PySem.intKind _ _) _ _ => D'
  simp only [stored, List.any_cons, List.any_nil, List.nil_append, List.map_cons, List.map_nil, List.cons_append, hk, hk.symm, Bool.or_false, Bool.false_or, Bool.or_true, Bool.true_or, decide_true, decide_false, if_true, if_false, Bool.false_eq_true, reduceIte] at D'
  refine hret _ _ _ _ _ _ (keepsOf K' N F' N' ?_) (freshOf K' N' (.head _) ?_) (N' _ (.head _)).1 (by assumption) D'
  · intro p hp; exact .inl (by simp only [List.mem_cons, List.not_mem_nil, or_false] at hp ⊢; rcases hp with rfl | rfl <;> simp)
  · intro p hp; simp only [List.mem_cons, List.not_mem_nil, or_false] at hp; rcases hp with rfl | rfl <;> k_ne
end
/-! text Mn6 -/
section
theorem linesMn6x1 : True := by
  k_with_none
  k_with "mine enter" => ((refine' enter ?k2z21 ?k3z21 ?k4z21 ?k5z21 ?k6z21 ?k7z21 ?k8z21 ?k9z21 ?kBz21 ?_ ?c2z21 ?c3z21 ?c4z21 ?c5z21; (case k2z21 => k_asm); (case k3z21 => k_asm); (case k4z21 => k_asm); (case k5z21 => k_asm); (case k6z21 => k_is); (case k7z21 => k_is); (case k8z21 => ktr_room); (case k9z21 => exact BindsTo.of_eq rfl); (case c5z21 => decide); (case kBz21 => exact locs rfl); (case c2z21 => exact rfl); (case c3z21 => exact rfl); (case c4z21 => exact rfl); k_whole))
  k_with "mine keeps" => (((with_reducible rename Keeps _ _ _ => kK); (have F' := frAfter0 (by k_asm) kK); (have N' := newsAfter0 (by k_asm) kK); clear kK; (try k_sweep)))
  k_with "mine made" => (((with_reducible rename Keeps _ _ _ => kK); rename (Heap.get? _ _ = none) => kn; rename (Heap.get? _ _ = some _) => ks; (have l1 := allNe_of (by k_asm) kn); (have N' := newsIn (by k_asm) kn ks (newsAfter0 (by k_asm) kK)); (have F' := frAfter0 (by k_asm) kK); clear kK kn ks; (try k_sweep)))
  trivial
variable {pg : Program} {lz : List Str} {w : World} {mean : ExcName → Option Value} {mg mb : Str → Option Value}
   {dp un : Nat} {gd : Option (List Code)} {cn : Str} {cs : Scope} {a : Addr} {ccd : Value} {cl : List (Str × Addr)} {outer : List Env} {h₀ : Heap} {L : Addr} {m : Str → Option Value} {s : Shared} {Q E : Value → Shared → Prop}
/-- the lower bound's callers: `p` times the lower corner, `q` times the upper one (left out if 0) -/
noncomputable def DL (k0 k1 p q : Int) (kvs : List (Int × Value)) : Prop := (q = 0 ∧ ∃ t, kvs = [(k0, .int p t)]) ∨ (q ≠ 0 ∧ ∃ t u, kvs = [(k0, .int p t), (k1, .int q u)])
/-- the upper bound's callers -/
noncomputable def DR (k0 k1 p q : Int) (kvs : List (Int × Value)) : Prop := (p = 0 ∧ ∃ u, kvs = [(k1, .int q u)]) ∨ (p ≠ 0 ∧ ∃ t u, kvs = [(k0, .int p t), (k1, .int q u)])
theorem flat1 (k p : Int) (t : Tok) : PyProof.V.FlatPairs PyData.int [(k, Value.int p t)] [(PyData.int k, PyData.int p)] := .cons (.int _ _) .nil
theorem flat2 (k p k' p' : Int) (t t' : Tok) : PyProof.V.FlatPairs PyData.int [(k, Value.int p t), (k', .int p' t')] [(PyData.int k, PyData.int p), (PyData.int k', PyData.int p')] := .cons (.int _ _) (.cons (.int _ _) .nil)
theorem news1 {h : Heap} {led : List (Addr × Obj)} {p : Addr × Obj} (N : News h₀ L h led) (h1 : p ∈ led) : News h₀ L h [p] := fun x hx => by rcases List.mem_singleton.mp hx with rfl; exact N _ h1
theorem news2 {h : Heap} {led : List (Addr × Obj)} {p q : Addr × Obj} (N : News h₀ L h led) (h1 : p ∈ led) (h2 : q ∈ led) : News h₀ L h [p, q] := fun x hx => by
  rcases List.mem_cons.mp hx with rfl | hx
  · exact N _ h1
  · rcases List.mem_singleton.mp hx with rfl; exact N _ h2
theorem addc_ok {k0 k1 p q p' q' : Int} {da db : Addr} {oa ob : Obj} {ka kb : List (Int × Value)}
   (F : Fr h₀ L s.heap m) (X : (Mine.hd.heap_1 w.params).In h₀) (T : Top pg lz mean mg mb h₀)
   (N : News h₀ L s.heap [(da, oa), (db, ob)]) (hk : Shut (k0 ≠ k1)) (hne : Shut (da ≠ db))
   (lo1 : (da == sysModules) = false) (lo2 : (db == sysModules) = false)
   (h1 : oa.IsDictOf (PySem.intKind PG w) ka) (e1 : DL k0 k1 p q ka)
   (h2 : ob.IsDictOf (PySem.intKind PG w) kb) (e2 : DR k0 k1 p' q' kb)
   (hd : dp + 2 < recursionLimit) (hx : 0 ≤ p ∧ p ≤ 1000 ∧ 0 ≤ q ∧ q ≤ 1000 ∧ 0 ≤ p' ∧ p' ≤ 1000 ∧ 0 ≤ q' ∧ q' ≤ 1000)
   (hret : ∀ (v : Addr) (ov : Obj) (h' : Heap) (tk' : Nat) (u1 u2 : Tok), Keeps [] s.heap h' → s.heap.get? v = none → h'.get? v = some ov → (v == sysModules) = false → ov.IsDictOf (PySem.intKind PG w) [(k0, .int (p + p') u1), (k1, .int (q + q') u2)] → Q (.ref v) { s with heap := h', toks := tk' }) :
   wpAny (model PySem.Challenge.rw_ph0126_01.row.prog w) (ktrTop dp un gd cn cs L a ccd cl outer) (call (.ref 28) [.ref da, .ref db]) Q E s := by
  rcases e1 with ⟨q0, t1, rfl⟩ | ⟨q0, t1, t2, rfl⟩ <;> rcases e2 with ⟨p0, t4, rfl⟩ | ⟨p0, t3, t4, rfl⟩
  · exact addc11 (q := 0) (p' := 0) (t2 := 0) (t3 := 0) F X T N hk hne lo1 lo2 h1 (flat1 ..) h2 (flat1 ..) hd (by omega) fun v ov h' tk' u1 u2 a1 a2 a3 a4 a5 => hret v ov h' tk' u1 u2 a1 a2 a3 a4 (by rw [p0, q0, Int.add_zero, Int.zero_add]; exact a5)
  · exact addc12 (q := 0) (t2 := 0) F X T N hk hne lo1 lo2 h1 (flat1 ..) h2 (flat2 ..) hd (by omega) fun v ov h' tk' u1 u2 a1 a2 a3 a4 a5 => hret v ov h' tk' u1 u2 a1 a2 a3 a4 (by rw [q0, Int.zero_add]; exact a5)
  · exact addc21 (p' := 0) (t3 := 0) F X T N hk hne lo1 lo2 h1 (flat2 ..) h2 (flat1 ..) hd (by omega) fun v ov h' tk' u1 u2 a1 a2 a3 a4 a5 => hret v ov h' tk' u1 u2 a1 a2 a3 a4 (by rw [p0, Int.add_zero]; exact a5)
  · exact addc22 F X T N hk hne lo1 lo2 h1 (flat2 ..) h2 (flat2 ..) hd hx hret
theorem linesMn6x2 : True := by
  k_with "call ref" => ((k_dflt (refine' addc_ok ?k1z24 ?k2z24 ?k3z24 ?kNz24 ?k4z24 ?k5z24 ?k6z24 ?k7z24 ?k8z24 ?k9z24 ?k10z24 ?k11z24 ?k12z24 ?k13z24 ?_; (case k1z24 => k_asm); (case k2z24 => k_asm); (case k3z24 => k_asm); (case kNz24 => (refine' news2 ?n1z24 ?n2z24 ?n3z24; (case n1z24 => k_asm); (case n2z24 => k_mem); (case n3z24 => k_mem))); (case k8z24 => with_reducible assumption); (case k9z24 => with_reducible assumption); (case k10z24 => with_reducible assumption); (case k11z24 => with_reducible assumption); (case k4z24 => with_reducible assumption); (case k5z24 => with_reducible assumption); (case k6z24 => with_reducible assumption); (case k7z24 => with_reducible assumption); (case k12z24 => ktr_room); (case k13z24 => assumption); intro v' ov' h' tk' u1' u2' K' n' g' lo' D'; walk_at "mine made")))
  trivial
theorem addf_ok {k0 k1 p q p' q' r1 g1 b1 n1 r2 g2 b2 n2 : Int} {la lb da db : Addr} {oa ob : Obj} {ka kb : List (Int × Value)} {t1 t2 t3 t4 t5 t6 t7 t8 : Tok}
   (F : Fr h₀ L s.heap m) (X : (Mine.hd.heap_1 w.params).In h₀) (T : Top pg lz mean mg mb h₀)
   (N : News h₀ L s.heap [(la, tupO [.int r1 t1, .int g1 t2, .int b1 t3, .int n1 t4, .ref da]), (lb, tupO [.int r2 t5, .int g2 t6, .int b2 t7, .int n2 t8, .ref db]), (da, oa), (db, ob)]) (hk : Shut (k0 ≠ k1)) (hne : Shut (da ≠ db))
   (lo1 : (da == sysModules) = false) (lo2 : (db == sysModules) = false)
   (h1 : oa.IsDictOf (PySem.intKind PG w) ka) (e1 : DL k0 k1 p q ka)
   (h2 : ob.IsDictOf (PySem.intKind PG w) kb) (e2 : DR k0 k1 p' q' kb)
   (hd : dp + 3 < recursionLimit) (hx : 0 ≤ p ∧ p ≤ 1000 ∧ 0 ≤ q ∧ q ≤ 1000 ∧ 0 ≤ p' ∧ p' ≤ 1000 ∧ 0 ≤ q' ∧ q' ≤ 1000)
   (hret : ∀ (v dv : Addr) (ov : Obj) (h' : Heap) (tk' : Nat) (u1 u2 u3 u4 u5 u6 : Tok), Keeps [] s.heap h' → s.heap.get? v = none → s.heap.get? dv = none → v ≠ dv →
     h'.get? v = some (tupO [.int (r2 + r1) u3, .int (g2 + g1) u4, .int (b2 + b1) u5, .int (n2 + n1) u6, .ref dv]) → h'.get? dv = some ov → (dv == sysModules) = false → ov.IsDictOf (PySem.intKind PG w) [(k0, .int (p + p') u1), (k1, .int (q + q') u2)] → Q (.ref v) { s with heap := h', toks := tk' }) :
   wpAny (model PySem.Challenge.rw_ph0126_01.row.prog w) (ktrTop dp un gd cn cs L a ccd cl outer) (call (.ref 21) [.ref la, .ref lb]) Q E s := by
  revert X; k_fill; intro X
  refine wpAny_call ?_
  k_dflt (walk_at "mine enter")
  intro g' L' h' K' hL' F' N' X' T' l'
  (try dsimp only); (try k_fold)
  k_steps
  rename News _ _ _ _ => N'; rename Fr _ _ _ _ => F'
  refine hret _ _ _ _ _ _ _ _ _ _ _ (keepsOf K' N F' N' (by simp)) (freshOf K' N' (.head _) (by k_all)) (freshOf K' N' (.tail _ (.head _)) (by k_all)) (by k_ne) (N' _ (.head _)).1 (N' _ (.tail _ (.head _))).1 (by assumption) (by assumption)
end
/-! text Mn7 -/
section
theorem linesMn7x1 : True := by
  k_with_none
  k_with "mine enter" => ((refine' enter ?k2z25 ?k3z25 ?k4z25 ?k5z25 ?k6z25 ?k7z25 ?k8z25 ?k9z25 ?kBz25 ?_ ?c2z25 ?c3z25 ?c4z25 ?c5z25; (case k2z25 => k_asm); (case k3z25 => k_asm); (case k4z25 => k_asm); (case k5z25 => k_asm); (case k6z25 => k_is); (case k7z25 => k_is); (case k8z25 => ktr_room); (case k9z25 => exact BindsTo.of_eq rfl); (case c5z25 => decide); (case kBz25 => exact locs rfl); (case c2z25 => exact rfl); (case c3z25 => exact rfl); (case c4z25 => exact rfl); k_whole))
  k_with "mine keeps" => (((with_reducible rename Keeps _ _ _ => kK); (have F' := frAfter0 (by k_asm) kK); (have N' := newsAfter0 (by k_asm) kK); clear kK; (try k_sweep)))
  k_with "mine made" => (((with_reducible rename Keeps _ _ _ => kK); rename (Heap.get? _ _ = none) => kn; rename (Heap.get? _ _ = some _) => ks; (have l1 := allNe_of (by k_asm) kn); (have N' := newsIn (by k_asm) kn ks (newsAfter0 (by k_asm) kK)); (have F' := frAfter0 (by k_asm) kK); clear kK kn ks; (try k_sweep)))
  trivial
variable {pg : Program} {lz : List Str} {w : World} {mean : ExcName → Option Value} {mg mb : Str → Option Value}
   {dp un : Nat} {gd : Option (List Code)} {cn : Str} {cs : Scope} {a : Addr} {ccd : Value} {cl : List (Str × Addr)} {outer : List Env} {h₀ : Heap} {L : Addr} {m : Str → Option Value} {s : Shared} {Q E : Value → Shared → Prop}
theorem linesMn7x2 : True := by
  k_with "eval Dict" => ((k_here; (with_reducible show wpAny _ _ (eval (Expr.Dict (_ :: _) _ _) _) _ _ _); k_dflt (refine' kdn_eval (knd := PySem.intKind _ _) ?Fz28 ?Nz28 ?bz28 ?az28 ?lz28 ?ez28 ?nz28 ?_; (case Fz28 => k_asm); (case Nz28 => first | k_asm | exact News.nil); (case bz28 => exact Top.nolimit (by k_asm)); (case az28 => rfl); (case lz28 => rfl); (case ez28 => exact List.cons_ne_nil _ _); (case nz28 => exact Nat.le_of_ble_eq_true rfl)); intro d' h' o' F' N' l1 lo' hd'; (try k_lt l1)))
  trivial
theorem corner_ok {c : Int} {t : Tok}
   (F : Fr h₀ L s.heap m) (X : (Mine.hd.heap_1 w.params).In h₀) (T : Top pg lz mean mg mb h₀)
   (hd : dp + 2 < recursionLimit)
   (hret : ∀ (v dv : Addr) (ov : Obj) (h' : Heap) (tk' : Nat) (u1 u2 u3 u4 u5 : Tok), Keeps [] s.heap h' → s.heap.get? v = none → s.heap.get? dv = none → v ≠ dv →
     h'.get? v = some (tupO [.int (Int.fdiv c 4) u1, .int (Int.fmod (Int.fdiv c 2) 2) u2, .int (Int.fmod c 2) u3, .int 1 u4, .ref dv]) → h'.get? dv = some ov → (dv == sysModules) = false → ov.IsDictOf (PySem.intKind PG w) [(c, .int 1 u5)] → Q (.ref v) { s with heap := h', toks := tk' }) :
   wpAny (model PySem.Challenge.rw_ph0126_01.row.prog w) (ktrTop dp un gd cn cs L a ccd cl outer) (call (.ref 91) [.int c t]) Q E s := by
  revert X; k_fill; intro X
  have N : News h₀ L s.heap [] := News.nil
  refine wpAny_call ?_
  k_dflt (walk_at "mine enter")
  intro g' L' h' K' hL' F' N' X' T' l'
  (try dsimp only); (try k_fold)
  k_steps
  rename News _ _ _ _ => N'; rename Fr _ _ _ _ => F'
  refine hret _ _ _ _ _ _ _ _ _ _ (keepsOf K' N F' N' (by simp)) (freshOf K' N' (.head _) (by k_all)) (freshOf K' N' (.tail _ (.head _)) (by k_all)) (by k_ne) (N' _ (.head _)).1 (N' _ (.tail _ (.head _))).1 (by assumption) (by assumption)
theorem count_ok {k0 k1 p q : Int} {da : Addr} {oa : Obj} {t1 t2 : Tok}
   (F : Fr h₀ L s.heap m) (X : (Mine.hd.heap_1 w.params).In h₀) (T : Top pg lz mean mg mb h₀)
   (N : News h₀ L s.heap [(da, oa)])  (lo1 : (da == sysModules) = false)
   (h1 : oa.IsDictOf (PySem.intKind PG w) [(k0, .int p t1), (k1, .int q t2)])
   (hd : dp + 2 < recursionLimit)
   (hret : ∀ (h' : Heap) (tk' : Nat) (u : Tok), Keeps [] s.heap h' → Q (.int (p + q) u) { s with heap := h', toks := tk' }) :
   wpAny (model PySem.Challenge.rw_ph0126_01.row.prog w) (ktrTop dp un gd cn cs L a ccd cl outer) (call (.ref 35) [.ref da]) Q E s := by
  revert X; k_fill; intro X
  have f1 := flat2 k0 p k1 q t1 t2
  refine wpAny_call ?_
  k_dflt (walk_at "mine enter")
  intro g' L' h' K' hL' F' N' X' T' l'
  (try dsimp only); (try k_fold)
  k_steps
  rename News _ _ _ _ => N'; rename Fr _ _ _ _ => F'
  rw [Int.zero_add]
  exact hret _ _ _ (keepsOf K' N F' N' (by simp))
end
/-! text Mn8 -/
section
theorem linesMn8x1 : True := by
  k_with_none
  k_with "mine enter" => ((refine' enter ?k2z29 ?k3z29 ?k4z29 ?k5z29 ?k6z29 ?k7z29 ?k8z29 ?k9z29 ?kBz29 ?_ ?c2z29 ?c3z29 ?c4z29 ?c5z29; (case k2z29 => k_asm); (case k3z29 => k_asm); (case k4z29 => k_asm); (case k5z29 => k_asm); (case k6z29 => k_is); (case k7z29 => k_is); (case k8z29 => ktr_room); (case k9z29 => exact BindsTo.of_eq rfl); (case c5z29 => decide); (case kBz29 => exact locs rfl); (case c2z29 => exact rfl); (case c3z29 => exact rfl); (case c4z29 => exact rfl); k_whole))
  k_with "mine keeps" => (((with_reducible rename Keeps _ _ _ => kK); (have F' := frAfter0 (by k_asm) kK); (have N' := newsAfter0 (by k_asm) kK); clear kK; (try k_sweep)))
  k_with "mine made" => (((with_reducible rename Keeps _ _ _ => kK); rename (Heap.get? _ _ = none) => kn; rename (Heap.get? _ _ = some _) => ks; (have l1 := allNe_of (by k_asm) kn); (have N' := newsIn (by k_asm) kn ks (newsAfter0 (by k_asm) kK)); (have F' := frAfter0 (by k_asm) kK); clear kK kn ks; (try k_sweep)))
  trivial
variable {pg : Program} {lz : List Str} {w : World} {mean : ExcName → Option Value} {mg mb : Str → Option Value}
   {dp un : Nat} {gd : Option (List Code)} {cn : Str} {cs : Scope} {a : Addr} {ccd : Value} {cl : List (Str × Addr)} {outer : List Env} {h₀ : Heap} {L : Addr} {m : Str → Option Value} {s : Shared} {Q E : Value → Shared → Prop}
noncomputable def Mark (P : Prop) : Prop := P
theorem ofMark {P : Prop} (h : Mark P) : P := h
theorem mark {P : Prop} (h : P) : Mark P := h

/-- an entry of a profile: red, green, blue, the count, and how often the lower and the upper corner called -/
structure Ent where
  r : Int
  g : Int
  b : Int
  n : Int
  p : Int
  q : Int
noncomputable def Ent.add (x y : Ent) : Ent := ⟨y.r + x.r, y.g + x.g, y.b + x.b, y.n + x.n, x.p + y.p, x.q + y.q⟩
noncomputable def Ent.hue (x : Ent) : UInt64 := hueF (dF x.r) (dF x.g) (dF x.b)
noncomputable def Ent.ok (x : Ent) : Bool := decide (0 ≤ x.r ∧ x.r ≤ 12 ∧ 0 ≤ x.g ∧ x.g ≤ 12 ∧ 0 ≤ x.b ∧ x.b ≤ 12 ∧ 0 ≤ x.p ∧ x.p ≤ 12 ∧ 0 ≤ x.q ∧ x.q ≤ 12 ∧ x.p ≠ 0 ∧ x.q ≠ 0) && hsvOk (dF x.r) (dF x.g) (dF x.b)
/-- the search, in plain words -/
noncomputable def srch (H : UInt64) : Nat → Ent → Ent → Str → Option (Ent × Ent × Ent × Str)
  | 0, _, _, _ => none
  | k + 1, l, u, wd =>
    if (l.add u).ok then
      if eqF (l.add u).hue H then some (l.add u, l, u, wd)
      else if ltF (l.add u).hue H then srch H k (l.add u) u (wd ++ "r")
      else srch H k l (l.add u) (wd ++ "l")
    else none
abbrev Ent.tup (x : Ent) (d : Addr) (t1 t2 t3 t4 : Tok) : Obj := tupO [.int x.r t1, .int x.g t2, .int x.b t3, .int x.n t4, .ref d]


theorem newsUp {h g h'' : Heap} {L' : Addr} {news led' : List (Addr × Obj)} {p : Addr × Obj} (F : Fr h₀ L h m) (N : News h₀ L h news) (k : Keeps (news.map (·.1)) h g) (N' : News g L' h'' led') (hp : p ∈ led') : h''.get? p.1 = some p.2 ∧ p.1 ≠ L ∧ h₀.get? p.1 = none := by
  obtain ⟨oL, _, _, hL, _⟩ := F.ns
  refine ⟨(N' p hp).1, fun q => ?_, ?_⟩
  · have := k L oL hL fun z => by obtain ⟨y, hy, e⟩ := List.mem_map.mp z; exact (N y hy).2.1 e
    rw [← q, (N' p hp).2.2] at this; cases this
  · cases q : h₀.get? p.1 with
    | none => rfl
    | some o =>
      have := k p.1 o (F.keep _ _ q) fun z => by
        obtain ⟨y, hy, e⟩ := List.mem_map.mp z
        have e2 := (N y hy).2.2
        rw [e, q] at e2; cases e2
      rw [(N' p hp).2.2] at this; cases this
theorem news4 {h : Heap} {led : List (Addr × Obj)} {p q r t : Addr × Obj} (N : News h₀ L h led) (h1 : p ∈ led) (h2 : q ∈ led) (h3 : r ∈ led) (h4 : t ∈ led) : News h₀ L h [p, q, r, t] := fun x hx => by
  simp only [List.mem_cons, List.not_mem_nil, or_false] at hx
  rcases hx with rfl | rfl | rfl | rfl
  · exact N _ h1
  · exact N _ h2
  · exact N _ h3
  · exact N _ h4
theorem newsJ {h : Heap} {led orig : List (Addr × Obj)} {p q r t : Addr × Obj} (N : News h₀ L h led) (h1 : p ∈ led) (h2 : q ∈ led) (h3 : r ∈ led) (h4 : t ∈ led) (h5 : ∀ x ∈ orig, x ∈ led) : News h₀ L h (p :: q :: r :: t :: orig) := fun x hx => by
  simp only [List.mem_cons] at hx
  rcases hx with rfl | rfl | rfl | rfl | hx
  · exact N _ h1
  · exact N _ h2
  · exact N _ h3
  · exact N _ h4
  · exact N _ (h5 _ hx)
theorem len_r (x : Str) {k : Nat} (h : x.length + (k + 1) = 12) : (x ++ ("r" : Str)).length + k = 12 := by
  have e : ("r" : Str).length = 1 := by decide +kernel
  rw [Str.length_append, e]; omega
theorem len_l (x : Str) {k : Nat} (h : x.length + (k + 1) = 12) : (x ++ ("l" : Str)).length + k = 12 := by
  have e : ("l" : Str).length = 1 := by decide +kernel
  rw [Str.length_append, e]; omega
theorem news5 {h : Heap} {p q r t u : Addr × Obj} (h1 : h.get? p.1 = some p.2 ∧ p.1 ≠ L ∧ h₀.get? p.1 = none) (h2 : h.get? q.1 = some q.2 ∧ q.1 ≠ L ∧ h₀.get? q.1 = none) (h3 : h.get? r.1 = some r.2 ∧ r.1 ≠ L ∧ h₀.get? r.1 = none) (h4 : h.get? t.1 = some t.2 ∧ t.1 ≠ L ∧ h₀.get? t.1 = none) (h5 : h.get? u.1 = some u.2 ∧ u.1 ≠ L ∧ h₀.get? u.1 = none) : News h₀ L h [p, q, r, t, u] := fun x hx => by
  simp only [List.mem_cons, List.not_mem_nil, or_false] at hx
  rcases hx with rfl | rfl | rfl | rfl | rfl
  · exact h1
  · exact h2
  · exact h3
  · exact h4
  · exact h5
theorem News.dbl {h : Heap} {led : List (Addr × Obj)} (N : News h₀ L h led) : News h₀ L h (led ++ led) := fun p hp => N p (by simpa using hp)
/-- what holds of the search's frame and ledger ahead of each turn -/
noncomputable def srchJ (w : World) (H : UInt64) (th : Tok) (k0 k1 : Int) (orig : List (Addr × Obj)) (A₀ B₀ : Addr) (res : Ent × Ent × Ent × Str) (n : Nat) (m₁ : Str → Option Value) (news₁ : List (Addr × Obj)) : Prop :=
  ∃ (l u : Ent) (wd : Str) (la lb da db : Addr) (oa ob : Obj) (ka kb : List (Int × Value)) (t1 t2 t3 t4 t5 t6 t7 t8 tw : Tok),
    m₁ "hue" = some (.float H th) ∧ m₁ "left" = some (.ref la) ∧ m₁ "right" = some (.ref lb) ∧ m₁ "word" = some (.str wd tw) ∧
    news₁ = (la, l.tup da t1 t2 t3 t4) :: (lb, u.tup db t5 t6 t7 t8) :: (da, oa) :: (db, ob) :: orig ∧
    Shut (da ≠ db) ∧ (da == sysModules) = false ∧ (db == sysModules) = false ∧ oa.IsDictOf (PySem.intKind PG w) ka ∧ DL k0 k1 l.p l.q ka ∧ ob.IsDictOf (PySem.intKind PG w) kb ∧ DR k0 k1 u.p u.q kb ∧
    (0 ≤ l.p ∧ l.p ≤ 12 ∧ 0 ≤ l.q ∧ l.q ≤ 12 ∧ 0 ≤ u.p ∧ u.p ≤ 12 ∧ 0 ≤ u.q ∧ u.q ≤ 12) ∧
    wd.length + n = 12 ∧ srch H n l u wd = some res ∧ (da = A₀ ∨ ∀ p ∈ orig, p.1 ≠ da) ∧ (db = B₀ ∨ ∀ p ∈ orig, p.1 ≠ db)
section
theorem linesMn8x2 : True := by
  k_with "exec While Compare cons nil" => (refine ofMark ?_)
  k_with "loadName" => ((k_here; k_dflt (refine' ldn ?k1z33 ?k2z33 ?_; (case k1z33 => k_asm); (case k2z33 => first | exact rfl | assumption); k_whole)))
  k_with "eval Name" => ((k_here; k_dflt (refine' ld ?k1z34 ?k2z34 ?_; (case k1z34 => k_asm); (case k2z34 => first | exact rfl | assumption); k_whole)))
  k_with "call ref" => ((k_dflt (refine' toldT_ok ?k1z35 ?k2z35 ?k3z35 ?kNz35 ?k4z35 ?k5z35 ?k6z35 ?_; (case k1z35 => k_asm); (case k2z35 => k_asm); (case k3z35 => k_asm); (case kNz35 => (refine' news1 ?n1z35 ?n2z35; (case n1z35 => k_asm); (case n2z35 => k_mem))); (case k4z35 => ktr_room); (case k5z35 => assumption); (case k6z35 => assumption); intro v' h' tk' u1' u2' u3' K' n' g'; walk_at "mine made")))
  k_with "call ref" => ((k_dflt (refine' addf_ok ?k1z36 ?k2z36 ?k3z36 ?kNz36 ?k4z36 ?k5z36 ?k6z36 ?k7z36 ?k8z36 ?k9z36 ?k10z36 ?k11z36 ?k12z36 ?k13z36 ?_; (case k1z36 => k_asm); (case k2z36 => k_asm); (case k3z36 => k_asm); (case kNz36 => (refine' news4 ?n1z36 ?n2z36 ?n3z36 ?n4z36 ?n5z36; (case n1z36 => k_asm); (case n2z36 => k_mem); (case n3z36 => k_mem); (case n4z36 => k_mem); (case n5z36 => k_mem))); (case k8z36 => assumption); (case k9z36 => assumption); (case k10z36 => assumption); (case k11z36 => assumption); (case k4z36 => assumption); (case k5z36 => assumption); (case k6z36 => assumption); (case k7z36 => assumption); (case k12z36 => ktr_room); (case k13z36 => assumption); intro v' dv' ov' h' tk' u1' u2' u3' u4' u5' u6' K' n1' n2' ne' g1' g2' lo' D'; (have l2 := allNe_of (by k_asm) n2'); (have l1 := allNe_of (by k_asm) n1'); (have N' := newsIn (by k_asm) n1' g1' (newsIn (by k_asm) n2' g2' (newsAfter0 (by k_asm) K'))); (have F' := frAfter0 (by k_asm) K'); clear K' n1' n2' g1' g2'; (have ne' := Shut.mk ne'); (try k_sweep))))
  trivial
theorem Ent.okFacts {x : Ent} (h : x.ok = true) : (0 ≤ x.r ∧ x.r ≤ 12 ∧ 0 ≤ x.g ∧ x.g ≤ 12 ∧ 0 ≤ x.b ∧ x.b ≤ 12) ∧ (0 ≤ x.p ∧ x.p ≤ 12 ∧ 0 ≤ x.q ∧ x.q ≤ 12) ∧ x.p ≠ 0 ∧ x.q ≠ 0 ∧ hsvOk (dF x.r) (dF x.g) (dF x.b) = true := by
  simp only [Ent.ok, Bool.and_eq_true, decide_eq_true_eq] at h
  exact ⟨by omega, by omega, by omega, by omega, h.2⟩
theorem search_ok {H : UInt64} {th : Tok} {k0 k1 : Int} {l u : Ent} {la lb da db : Addr} {oa ob : Obj} {ka kb : List (Int × Value)} {t1 t2 t3 t4 t5 t6 t7 t8 : Tok} {md lo up : Ent} {wd : Str}
   (F : Fr h₀ L s.heap m) (X : (Mine.hd.heap_1 w.params).In h₀) (T : Top pg lz mean mg mb h₀)
   (N : News h₀ L s.heap [(la, l.tup da t1 t2 t3 t4), (lb, u.tup db t5 t6 t7 t8), (da, oa), (db, ob)]) (hk : Shut (k0 ≠ k1)) (hne : Shut (da ≠ db))
   (lo1 : (da == sysModules) = false) (lo2 : (db == sysModules) = false)
   (h1 : oa.IsDictOf (PySem.intKind PG w) ka) (e1 : DL k0 k1 l.p l.q ka)
   (h2 : ob.IsDictOf (PySem.intKind PG w) kb) (e2 : DR k0 k1 u.p u.q kb)
   (hl : 0 ≤ l.p ∧ l.p ≤ 12 ∧ 0 ≤ l.q ∧ l.q ≤ 12 ∧ 0 ≤ u.p ∧ u.p ≤ 12 ∧ 0 ≤ u.q ∧ u.q ≤ 12)
   (hd : dp + 4 < recursionLimit) (hs : srch H 12 l u "" = some (md, lo, up, wd))
   (hret : ∀ (v mv dm dl du : Addr) (om ol ou : Obj) (kl ku : List (Int × Value)) (h' : Heap) (tk' : Nat) (u1 u2 u3 u4 u5 u6 u7 : Tok), Keeps [] s.heap h' →
      News h₀ L h' [(v, tupO [.ref mv, .ref dl, .ref du, .str wd u7]), (mv, md.tup dm u3 u4 u5 u6), (dm, om), (dl, ol), (du, ou)] →
      s.heap.get? v = none → s.heap.get? mv = none → s.heap.get? dm = none → (dl = da ∨ s.heap.get? dl = none) → (du = db ∨ s.heap.get? du = none) →
      (dm == sysModules) = false → (dl == sysModules) = false → (du == sysModules) = false →
      om.IsDictOf (PySem.intKind PG w) [(k0, .int md.p u1), (k1, .int md.q u2)] → ol.IsDictOf (PySem.intKind PG w) kl → DL k0 k1 lo.p lo.q kl → ou.IsDictOf (PySem.intKind PG w) ku → DR k0 k1 up.p up.q ku →
      Q (.ref v) { s with heap := h', toks := tk' }) :
   wpAny (model PySem.Challenge.rw_ph0126_01.row.prog w) (ktrTop dp un gd cn cs L a ccd cl outer) (call (.ref 105) [.float H th, .ref la, .ref lb]) Q E s := by
  revert X; k_fill; intro X
  refine wpAny_call ?_
  k_dflt (walk_at "mine enter")
  intro g' L' h' K' hL' F' N' X' T' l'
  (try dsimp only); (try k_fold)
  k_steps
  refine mark ?_
  refine While_inv2 (srchJ w H th k0 k1 [(la, l.tup da t1 t2 t3 t4), (lb, u.tup db t5 t6 t7 t8), (da, oa), (db, ob)] da db (md, lo, up, wd)) (n₀ := 12) (by k_asm) (News.dbl (by k_asm)) ?_ ?_ ?_
  · exact ⟨l, u, "", la, lb, da, db, oa, ob, ka, kb, t1, t2, t3, t4, t5, t6, t7, t8, _, rfl, rfl, rfl, rfl, rfl, hne, lo1, lo2, h1, e1, h2, e2, hl, rfl, hs, .inl rfl, .inl rfl⟩
  · clear hs
    rintro n m₁ news₁ h₁ tk₁ F₁ N₁ ⟨l₁, u₁, wd₁, la₁, lb₁, da₁, db₁, oa₁, ob₁, ka₁, kb₁, v1, v2, v3, v4, v5, v6, v7, v8, vw, m1, m2, m3, m4, rfl, hne₁, lo₁, lo₂, d1, d2, d3, d4, hb, hn, hs, o1, o2⟩
    obtain ⟨k, rfl⟩ : ∃ k, n = k + 1 := by
      cases n with
      | zero => exact nomatch hs
      | succ k => exact ⟨k, rfl⟩
    have hlen : wd₁.length < 12 := by omega
    have hok : (l₁.add u₁).ok = true := by
      cases q : (l₁.add u₁).ok with
      | true => rfl
      | false => simp [srch, q] at hs
    obtain ⟨b1, b2, b3, b4, b5⟩ := Ent.okFacts hok
    replace b3 := Shut.mk b3; replace b4 := Shut.mk b4
    simp only [srch, hok, if_true] at hs
    have hb' : 0 ≤ l₁.p ∧ l₁.p ≤ 1000 ∧ 0 ≤ l₁.q ∧ l₁.q ≤ 1000 ∧ 0 ≤ u₁.p ∧ u₁.p ≤ 1000 ∧ 0 ≤ u₁.q ∧ u₁.q ≤ 1000 := by omega
    k_steps
    · rename ((Float64.cmp _ _ == some Ordering.eq) = true) => c1
      have hq : eqF (l₁.add u₁).hue H = true := c1
      rw [if_pos hq] at hs
      simp only [Option.some.injEq, Prod.mk.injEq] at hs
      obtain ⟨rfl, rfl, rfl, rfl⟩ := hs
      rename News _ _ _ _ => N'; rename Fr _ _ _ _ => F'; rename ((_ == sysModules) = false) => lo'; rename Obj.IsDictOf _ _ _ => D'
      have P := fun p hp => newsUp F N K' N' (p := p) hp
      have R1 := P _ (.head _)
      have R2 := P _ (.tail _ (.tail _ (.head _)))
      have R3 := P _ (.tail _ (.tail _ (.tail _ (.head _))))
      have R4 := P _ (.tail _ (.tail _ (.tail _ (.tail _ (.tail _ (.tail _ (.head _)))))))
      have R5 := P _ (.tail _ (.tail _ (.tail _ (.tail _ (.tail _ (.tail _ (.tail _ (.head _))))))))
      have f1 := freshOf K' N' (.head _) (by k_all)
      have f2 := freshOf K' N' (.tail _ (.tail _ (.head _))) (by k_all)
      have f3 := freshOf K' N' (.tail _ (.tail _ (.tail _ (.head _)))) (by k_all)
      have f4 := o1.imp id fun z => freshOf K' N' (.tail _ (.tail _ (.tail _ (.tail _ (.tail _ (.tail _ (.head _))))))) z
      have f5 := o2.imp id fun z => freshOf K' N' (.tail _ (.tail _ (.tail _ (.tail _ (.tail _ (.tail _ (.tail _ (.head _)))))))) z
      have N5 := news5 R1 R2 R3 R4 R5
      clear P R1 R2 R3 R4 R5
      exact hret _ _ _ _ _ _ _ _ _ _ _ _ _ _ _ _ _ _ _ (keepsOf K' N F' N' (by simp)) N5 f1 f2 f3 f4 f5 lo' lo₁ lo₂ D' d1 d2 d3 d4
    · rename ((Float64.cmp _ _ == some Ordering.eq) = false) => c1
      rename ((Float64.cmp _ _ == some Ordering.lt) = true) => c2
      have hq : ¬ eqF (l₁.add u₁).hue H = true := by rw [Bool.not_eq_true]; exact c1
      have hq2 : ltF (l₁.add u₁).hue H = true := c2
      rw [if_neg hq, if_pos hq2] at hs
      rename News _ _ _ _ => N'; rename Fr _ _ _ _ => F'; rename ((_ == sysModules) = false) => lo'; rename Obj.IsDictOf _ _ _ => D'
      refine' ⟨_, _, _, _, k, rfl, F', newsJ N' ?n1 ?n2 ?n3 ?n4 ?n5, Nat.lt_succ_self _, l₁.add u₁, u₁, wd₁ ++ ("r" : Str), _, lb₁, _, db₁, _, ob₁, _, kb₁, _, _, _, _, v5, v6, v7, v8, _, m1, rfl, m3, rfl, rfl, ?ne, ?lo, lo₂, ?D, .inr ⟨b4.out, _, _, rfl⟩, d3, d4, by omega, len_r _ hn, hs, .inr ?fr, o2⟩
      case n1 => k_mem
      case n2 => k_mem
      case D => exact D'
      case n3 => k_mem
      case n4 => k_mem
      case n5 => simp
      case lo => exact lo'
      case ne => exact Shut.mk (by k_ne)
      case fr => k_all
    · rename ((Float64.cmp _ _ == some Ordering.eq) = false) => c1
      rename ((Float64.cmp _ _ == some Ordering.lt) = false) => c2
      have hq : ¬ eqF (l₁.add u₁).hue H = true := by rw [Bool.not_eq_true]; exact c1
      have hq2 : ¬ ltF (l₁.add u₁).hue H = true := by rw [Bool.not_eq_true]; exact c2
      rw [if_neg hq, if_neg hq2] at hs
      rename News _ _ _ _ => N'; rename Fr _ _ _ _ => F'; rename ((_ == sysModules) = false) => lo'; rename Obj.IsDictOf _ _ _ => D'
      refine' ⟨_, _, _, _, k, rfl, F', newsJ N' ?n1 ?n2 ?n3 ?n4 ?n5, Nat.lt_succ_self _, l₁, l₁.add u₁, wd₁ ++ ("l" : Str), la₁, _, da₁, _, oa₁, _, ka₁, _, v1, v2, v3, v4, _, _, _, _, _, m1, m2, rfl, rfl, rfl, ?ne, lo₁, ?lo, d1, d2, ?D, .inr ⟨b3.out, _, _, rfl⟩, by omega, len_l _ hn, hs, o1, .inr ?fr⟩
      case n1 => k_mem
      case n2 => k_mem
      case D => exact D'
      case n3 => k_mem
      case n4 => k_mem
      case n5 => simp
      case lo => exact lo'
      case ne => exact Shut.mk (by k_ne)
      case fr => k_all
  · passes_own
end
end
/-! text Mn9 -/
section
theorem linesMn9x1 : True := by
  k_with_none
  k_with "mine enter" => ((refine' enter ?k2z37 ?k3z37 ?k4z37 ?k5z37 ?k6z37 ?k7z37 ?k8z37 ?k9z37 ?kBz37 ?_ ?c2z37 ?c3z37 ?c4z37 ?c5z37; (case k2z37 => k_asm); (case k3z37 => k_asm); (case k4z37 => k_asm); (case k5z37 => k_asm); (case k6z37 => k_is); (case k7z37 => k_is); (case k8z37 => ktr_room); (case k9z37 => exact BindsTo.of_eq rfl); (case c5z37 => decide); (case kBz37 => exact locs rfl); (case c2z37 => exact rfl); (case c3z37 => exact rfl); (case c4z37 => exact rfl); k_whole))
  k_with "mine keeps" => (((with_reducible rename Keeps _ _ _ => kK); (have F' := frAfter0 (by k_asm) kK); (have N' := newsAfter0 (by k_asm) kK); clear kK; (try k_sweep)))
  k_with "mine made" => (((with_reducible rename Keeps _ _ _ => kK); rename (Heap.get? _ _ = none) => kn; rename (Heap.get? _ _ = some _) => ks; (have l1 := allNe_of (by k_asm) kn); (have N' := newsIn (by k_asm) kn ks (newsAfter0 (by k_asm) kK)); (have F' := frAfter0 (by k_asm) kK); clear kK kn ks; (try k_sweep)))
  trivial
variable {pg : Program} {lz : List Str} {w : World} {mean : ExcName → Option Value} {mg mb : Str → Option Value}
   {dp un : Nat} {gd : Option (List Code)} {cn : Str} {cs : Scope} {a : Addr} {ccd : Value} {cl : List (Str × Addr)} {outer : List Env} {h₀ : Heap} {L : Addr} {m : Str → Option Value} {s : Shared} {Q E : Value → Shared → Prop}
noncomputable def defOf : Option Stmt → Option (Arguments × List Stmt × Scope)
  | some (.FunctionDef _ p b _ _ _ sc _ _ _) => some (p, b, sc)
  | _ => none
noncomputable def stmtIn (k : Nat) : Option (Arguments × List Stmt × Scope) → Option Stmt
  | some (_, b, _) => b[k]?
  | none => none
noncomputable def innerA : Option (Arguments × List Stmt × Scope) := defOf (stmtIn 1 (defOf (PySem.Challenge.pw_ph0126_01.main.body[8]?)))
noncomputable def innerB : Option (Arguments × List Stmt × Scope) := defOf (stmtIn 0 (defOf (PySem.Challenge.pw_ph0126_01.main.body[9]?)))
theorem staysOf {h g : Heap} {news : List (Addr × Obj)} (F : Fr h₀ L h m) (N : News h₀ L h news) (k : Keeps (news.map (·.1)) h g) : ∀ b o, h₀.get? b = some o → g.get? b = some o := fun b o e => k b o (F.keep _ _ e) fun z => by
  obtain ⟨y, hy, q⟩ := List.mem_map.mp z
  have e2 := (N y hy).2.2
  rw [q, e] at e2; cases e2
section
variable {prog : Program} {A : Around} {news : List (Addr × Obj)} {K : Frag} {p : Program} {loose : List Str}
  {R : Result → Shared → Prop} {name qual : Str} {params : Arguments} {body : List Stmt} {scope : Scope} {doc pm ctv : Value} {c' f : Addr} {args : Args} {binds : List (Str × Value)}
theorem enterN (F : Fr h₀ L s.heap m) (X₀ : K.In h₀) (N : News h₀ L s.heap news) (T : Top p loose mean mg mb h₀)
    (ho : (f, fnMade name qual params body scope cl doc pm c' ctv) ∈ news) (hcd : s.heap.CodeRec (.ref c') qual) (hroom : A.depth < recursionLimit)
    (hbind : BindsTo s (fnX name qual params body scope cl .none .none doc pm none (.ref c') ctv) args binds) (hloc : ∀ y ∈ binds, scope.names.lookup y.1 = some .local)
    (h : ∀ g L' h₁, Keeps (news.map (·.1)) s.heap g → s.heap.objs.size = L' → Fr g L' h₁ (fun y => binds.reverse.lookup y) → News g L' h₁ news → K.In g → Top p loose mean mg mb g → (∀ p ∈ news, p.1 < L') →
      wpAny (model prog w) (A.deeper (envX qual scope L' f (.ref c') cl)) (execs body (envX qual scope L' f (.ref c') cl))
        (fun fl s' => R (.ok (.ret (match fl with | .ret v => v | _ => .none))) s') (fun _ _ => False)
        { s with heap := h₁, toks := s.toks + binds.length })
    (hco : scope.isCoroutine = false) (hgen : scope.isGenerator = false) (hk : scope.kind = .function)
    (hcell : ∀ x ∈ scope.names, x.2 ≠ .cell) : codeAny (model prog w) A (.call (.ref f) args) R s := by
  have st := ground F N
  refine codeAny_call_def (fd := fnX name qual params body scope cl .none .none doc pm none (.ref c') ctv) (body := body) (binds := binds) hroom (N _ ho).1 rfl (T.nolimit.keeps F.keep) hcd rfl hbind hcell hloc (fun h₁ hns hk₁ => ?_) hco hgen hk
  exact wpAny_mono (h _ s.heap.objs.size h₁ (fun b o e n => hideAll_get _ e n) rfl ⟨hns, fun b o e => hk₁ b o (of_hideAll _ e), Nat.le_of_eq (hideAll_size _ _)⟩
    (fun p hp => ⟨hk₁ _ _ (N p hp).1, Nat.ne_of_lt (Heap.lt_size (N p hp).1), hideAll_none _ (List.mem_map_of_mem hp)⟩) (X₀.keeps st) (T.keeps st) (fun p hp => Heap.lt_size (N p hp).1)) (fun fl s' hl => hl) fun _ _ y => y.elim
end

/-- the middle, the shift, the upper and the lower half, as the text reckons them -/
noncomputable def midI (lo hi : Int) : Int := (lo + hi).fdiv (2 ^ Int.toNat 1)
noncomputable def shI (n lo hi : Int) : Int := (midI lo hi - lo) * n
noncomputable def upI (n x lo hi : Int) : Int := x.fdiv (2 ^ (shI n lo hi).toNat)
noncomputable def lowI (n x lo hi : Int) : Int := Builtin.bitXor x (upI n x lo hi * 2 ^ (shI n lo hi).toNat)
noncomputable def fillF (n : Int) : Nat → Int → Int → Int → List Int → List Int
  | 0, _, _, _, ds => ds
  | k + 1, x, lo, hi, ds => if lo + 1 = hi then ds.set lo.toNat x else fillF n k (upI n x lo hi) (midI lo hi) hi (fillF n k (lowI n x lo hi) lo (midI lo hi) ds)
noncomputable def fillOk (n : Int) : Nat → Int → Int → Int → Bool
  | 0, _, _, _ => true
  | k + 1, x, lo, hi => decide (0 ≤ x ∧ x ≤ 1000) && (decide (lo + 1 = hi) || (decide (0 ≤ upI n x lo hi ∧ upI n x lo hi ≤ 1000) && fillOk n k (lowI n x lo hi) lo (midI lo hi) && fillOk n k (upI n x lo hi) (midI lo hi) hi))
theorem fillF_length (n : Int) : ∀ (k : Nat) (x lo hi : Int) (ds : List Int), (fillF n k x lo hi ds).length = ds.length
  | 0, _, _, _, _ => rfl
  | k + 1, x, lo, hi, ds => by
    unfold fillF
    split
    · exact List.length_set ..
    · rw [fillF_length n k, fillF_length n k]
theorem midFacts {n lo hi : Int} (hn : 1 ≤ n ∧ n ≤ 4) (hb : 0 ≤ lo ∧ lo < hi ∧ hi ≤ 8) (h2 : ¬ lo + 1 = hi) : lo < midI lo hi ∧ midI lo hi < hi ∧ 0 ≤ shI n lo hi ∧ shI n lo hi ≤ 32 := by
  have e : midI lo hi = (lo + hi) / 2 := Int.fdiv_eq_ediv_of_nonneg _ (by decide)
  have h1 : lo < midI lo hi := by rw [e]; omega
  have h3 : midI lo hi < hi := by rw [e]; omega
  refine ⟨h1, h3, ?_, ?_⟩
  · exact Int.mul_nonneg (by omega) (by omega)
  · have : shI n lo hi ≤ 8 * 4 := Int.mul_le_mul (by omega) hn.2 (by omega) (by decide)
    omega
theorem news6p {h : Heap} {led : List (Addr × Obj)} {a1 a2 a3 a4 a5 a6 : Addr × Obj} (N : News h₀ L h led) (h1 : a1 ∈ led) (h2 : a2 ∈ led) (h3 : a3 ∈ led) (h4 : a4 ∈ led) (h5 : a5 ∈ led) (h6 : a6 ∈ led) : News h₀ L h [a1, a2, a3, a4, a5, a6] := fun x hx => by
  simp only [List.mem_cons, List.not_mem_nil, or_false] at hx
  rcases hx with rfl | rfl | rfl | rfl | rfl | rfl
  · exact N _ h1
  · exact N _ h2
  · exact N _ h3
  · exact N _ h4
  · exact N _ h5
  · exact N _ h6
theorem news6 {h h' : Heap} {dl : Addr} {o o' : Obj} {a1 a2 a4 a5 a6 : Addr × Obj} (N : News h₀ L h [a1, a2, (dl, o), a4, a5, a6]) (k : Keeps [dl] h h') (hdl : h'.get? dl = some o') (hne : a1.1 ≠ dl ∧ a2.1 ≠ dl ∧ a4.1 ≠ dl ∧ a5.1 ≠ dl ∧ a6.1 ≠ dl) : News h₀ L h' [a1, a2, (dl, o'), a4, a5, a6] := fun x hx => by
  simp only [List.mem_cons, List.not_mem_nil, or_false] at hx
  have P : ∀ y ∈ [a1, a2, (dl, o), a4, a5, a6], y.1 ≠ dl → h'.get? y.1 = some y.2 ∧ y.1 ≠ L ∧ h₀.get? y.1 = none := fun y hy q => ⟨k _ _ (N y hy).1 (by simpa using q), (N y hy).2⟩
  rcases hx with rfl | rfl | rfl | rfl | rfl | rfl
  · exact P _ (by simp) hne.1
  · exact P _ (by simp) hne.2.1
  · exact ⟨hdl, (N (dl, o) (by simp)).2⟩
  · exact P _ (by simp) hne.2.2.1
  · exact P _ (by simp) hne.2.2.2.1
  · exact P _ (by simp) hne.2.2.2.2
section
theorem linesMn9x2 : True := by
  k_with "call ref" => (refine ofMark ?_)
  k_with "mine enterN" => ((refine' enterN ?k2z41 ?k3z41 ?k4z41 ?k5z41 ?k6z41 ?k7z41 ?k8z41 ?k9z41 ?kBz41 ?_ ?c2z41 ?c3z41 ?c4z41 ?c5z41; (case k2z41 => k_asm); (case k3z41 => k_asm); (case k4z41 => k_asm); (case k5z41 => k_asm); (case k6z41 => k_mem); (case k7z41 => exact codeRec_news (by k_asm) (by k_mem) (by assumption) (by assumption)); (case k8z41 => ktr_room); (case k9z41 => exact BindsTo.of_eq rfl); (case c5z41 => decide); (case kBz41 => exact locs rfl); (case c2z41 => exact rfl); (case c3z41 => exact rfl); (case c4z41 => exact rfl); k_whole))
  k_with "binaryOp RShift int int" => ((k_here; (refine rshift_int ?kbnz42 ?_); (case kbnz42 => with_unfolding_all assumption); (try dsimp only)))
  k_with "binaryOp LShift int int" => ((k_here; (refine lshift_int_small ?kb1z43 ?kb2z43 ?kb3z43 ?_); (case kb1z43 => assumption); (case kb2z43 => assumption); (case kb3z43 => assumption); (try dsimp only)))
  trivial
theorem innerA_ok {qual : Str} {params : Arguments} {body : List Stmt} {scope : Scope} {doc pm ctv : Value} {c' : Addr} {oc : Obj} {fs : Array Value} {tq tn : Tok} {n : Int} {fi c1 c2 c3 dl : Addr} {o1 o2 o3 : Obj}
   (hI : innerA = some (params, body, scope)) (hn : 1 ≤ n ∧ n ≤ 4) (hlt : c1 < c2 ∧ c2 < c3 ∧ c3 < dl ∧ dl < fi ∧ (c' < c1 ∨ dl < c' ∧ c' < fi))
   (hoc : oc.data = .fields fs) (hfs : fs[1]? = some (.str qual tq)) (d1 : o1.data = .cell (some (.int n tn))) (d2 : o2.data = .cell (some (.ref dl))) (d3 : o3.data = .cell (some (.ref fi))) (k : Nat) :
   ∀ {dp un : Nat} {gd : Option (List Code)} {cn : Str} {cs : Scope} {a : Addr} {ccd : Value} {cl : List (Str × Addr)} {outer : List Env} {h₀ : Heap} {L : Addr} {m : Str → Option Value} {s : Shared} {Q E : Value → Shared → Prop} {x lo hi : Int} {tx tl th : Tok} {vs : List Value} {e : Nat} {ds : List Int}
   (F : Fr h₀ L s.heap m) (X : (Mine.hd.heap_1 w.params).In h₀) (T : Top pg lz mean mg mb h₀)
   (N : News h₀ L s.heap [(fi, fnMade (Str.ofString "inner") qual params body scope [(Str.ofString "n", c1), (Str.ofString "inner", c3), (Str.ofString "a_digits", c2)] doc pm c' ctv), (c', oc), (dl, PySem.W.listOf vs.toArray e), (c3, o3), (c2, o2), (c1, o1)])
   (C : CodeHd h₀ 55 51) (hI : IntsAre vs ds)
   (hb : 0 ≤ lo ∧ lo < hi ∧ hi ≤ 8) (hb1 : hi ≤ (ds.length : Int)) (hb2 : hi - lo ≤ k) (hx : fillOk n k x lo hi = true)
   (hd : dp + k + 1 < recursionLimit)
   (hret : ∀ (h' : Heap) (tk' : Nat) (vs' : List Value) (e' : Nat), Keeps [dl] s.heap h' → h'.get? dl = some (PySem.W.listOf vs'.toArray e') → IntsAre vs' (fillF n k x lo hi ds) → Q .none { s with heap := h', toks := tk' }),
   wpAny (model PySem.Challenge.rw_ph0126_01.row.prog w) (ktrTop dp un gd cn cs L a ccd cl outer) (call (.ref fi) [.int x tx, .int lo tl, .int hi th]) Q E s := by
  replace hlt : @LT.lt Nat _ c1 c2 ∧ @LT.lt Nat _ c2 c3 ∧ @LT.lt Nat _ c3 dl ∧ @LT.lt Nat _ dl fi ∧ (@LT.lt Nat _ c' c1 ∨ @LT.lt Nat _ dl c' ∧ @LT.lt Nat _ c' fi) := hlt
  conv at hI => lhs; whnf
  injection hI with hI
  injection hI with e1 e2
  injection e2 with e2 e3
  subst e1 e2 e3
  induction k with
  | zero => intros; omega
  | succ k ih =>
    intro dp un gd cn cs a ccd cl outer h₀ L m s Q E x lo hi tx tl th vs e ds F X T N C hI hb hb1 hb2 hx hd hret
    revert X; k_fill; intro X
    refine wpAny_call ?_
    k_dflt (walk_at "mine enterN")
    intro g' L' h' K' hL' F' N' X' T' l'
    have C := C.keeps (staysOf F N K')
    by_cases hq : lo + 1 = hi
    · clear ih
      (try dsimp only); (try k_fold)
      k_steps
      · rename News _ _ _ _ => N'; rename Fr _ _ _ _ => F'; rename IntsAre _ _ => i2
        refine hret _ _ _ _ (keepsOf K' N F' N' (by simp)) (N' _ (.tail _ (.tail _ (.head _)))).1 ?_
        simp only [fillF, hq, if_true]
        exact i2
      · exfalso; omega
    · simp only [fillOk, hq, decide_false, Bool.false_or, Bool.and_eq_true, decide_eq_true_eq] at hx
      obtain ⟨hx1, ⟨hx2, hx3⟩, hx4⟩ := hx
      obtain ⟨hm1, hm2, hm3, hm4⟩ := midFacts hn hb hq
      have q1 : midI lo hi ≤ 8 := by omega
      have q2 : midI lo hi ≤ (ds.length : Int) := by omega
      have q3 : midI lo hi - lo ≤ (k : Int) := by omega
      have q4 : hi - midI lo hi ≤ (k : Int) := by omega
      have q5 : 0 ≤ midI lo hi := by omega
      have hS1 : 0 ≤ ((lo + hi).fdiv (2 ^ Int.toNat 1) - lo) * n := hm3
      have hS2 : ((lo + hi).fdiv (2 ^ Int.toNat 1) - lo) * n ≤ 1000000 := Int.le_trans hm4 (by decide)
      have hS3 : (x.fdiv (2 ^ (((lo + hi).fdiv (2 ^ Int.toNat 1) - lo) * n).toNat)).natAbs < 2 ^ 64 := by
        have e1 : (x.fdiv (2 ^ (((lo + hi).fdiv (2 ^ Int.toNat 1) - lo) * n).toNat)) = upI n x lo hi := rfl
        rw [e1]; omega
      (try dsimp only); (try k_fold)
      k_steps
      · exfalso; omega
      · refine mark ?_
        rename News _ _ _ _ => N1; rename Fr _ _ _ _ => F1
        refine ih F1 X' T' N1 C hI ⟨hb.1, hm1, q1⟩ q2 q3 hx3 (by ktr_room) ?_
        intro h2 tk2 vs2 e2 K2 g2 i2
        have F2 := frAfter F1 N1 (ms := [dl]) (by intro b hb; rcases List.mem_singleton.mp hb with rfl; exact ⟨_, List.Mem.tail _ (List.Mem.tail _ (List.Mem.head _))⟩) K2
        have N2 := news6 N1 K2 g2 ⟨by k_ne, by k_ne, by k_ne, by k_ne, by k_ne⟩
        clear F1 N1
        dsimp only
        k_steps
        refine mark ?_
        rename News _ _ _ _ => N1; rename Fr _ _ _ _ => F1
        refine ih F1 X' T' N1 C i2 ⟨q5, hm2, hb.2.2⟩ (by rw [fillF_length]; exact hb1) q4 hx4 (by ktr_room) ?_
        intro h2 tk2 vs2 e2 K2 g2 i3
        have F2 := frAfter F1 N1 (ms := [dl]) (by intro b hb; rcases List.mem_singleton.mp hb with rfl; exact ⟨_, List.Mem.tail _ (List.Mem.tail _ (List.Mem.head _))⟩) K2
        have N2 := news6 N1 K2 g2 ⟨by k_ne, by k_ne, by k_ne, by k_ne, by k_ne⟩
        clear F1 N1
        dsimp only
        k_steps
        rename News _ _ _ _ => N'; rename Fr _ _ _ _ => F'
        refine hret _ _ _ _ (keepsOf K' N F' N' (by simp)) (N' _ (.tail _ (.tail _ (.head _)))).1 ?_
        simp only [fillF, hq, if_false]
        exact i3
end
end
/-! text Mn10 -/
section
theorem linesMn10x1 : True := by
  k_with_none
  k_with "mine enter" => ((refine' enter ?k2z44 ?k3z44 ?k4z44 ?k5z44 ?k6z44 ?k7z44 ?k8z44 ?k9z44 ?kBz44 ?_ ?c2z44 ?c3z44 ?c4z44 ?c5z44; (case k2z44 => k_asm); (case k3z44 => k_asm); (case k4z44 => k_asm); (case k5z44 => k_asm); (case k6z44 => k_is); (case k7z44 => k_is); (case k8z44 => ktr_room); (case k9z44 => exact BindsTo.of_eq rfl); (case c5z44 => decide); (case kBz44 => exact locs rfl); (case c2z44 => exact rfl); (case c3z44 => exact rfl); (case c4z44 => exact rfl); k_whole))
  k_with "mine keeps" => (((with_reducible rename Keeps _ _ _ => kK); (have F' := frAfter0 (by k_asm) kK); (have N' := newsAfter0 (by k_asm) kK); clear kK; (try k_sweep)))
  k_with "mine made" => (((with_reducible rename Keeps _ _ _ => kK); rename (Heap.get? _ _ = none) => kn; rename (Heap.get? _ _ = some _) => ks; (have l1 := allNe_of (by k_asm) kn); (have N' := newsIn (by k_asm) kn ks (newsAfter0 (by k_asm) kK)); (have F' := frAfter0 (by k_asm) kK); clear kK kn ks; (try k_sweep)))
  trivial
variable {pg : Program} {lz : List Str} {w : World} {mean : ExcName → Option Value} {mg mb : Str → Option Value}
   {dp un : Nat} {gd : Option (List Code)} {cn : Str} {cs : Scope} {a : Addr} {ccd : Value} {cl : List (Str × Addr)} {outer : List Env} {h₀ : Heap} {L : Addr} {m : Str → Option Value} {s : Shared} {Q E : Value → Shared → Prop}
theorem linesMn10x2 : True := by
  k_with "mine enterC" => ((refine' enterC ?k2z47 ?k3z47 ?k4z47 ?k5z47 ?k6z47 ?k7z47 ?k8z47 ?k9z47 ?kBz47 ?kDz47 ?_ ?c2z47 ?c3z47 ?c4z47; (case k2z47 => k_asm); (case k3z47 => k_asm); (case k4z47 => k_asm); (case k5z47 => k_asm); (case k6z47 => k_is); (case k7z47 => k_is); (case k8z47 => ktr_room); (case k9z47 => exact BindsTo.of_eq rfl); (case kBz47 => exact rfl); (case kDz47 => decide +kernel); (case c2z47 => exact rfl); (case c3z47 => exact rfl); (case c4z47 => exact rfl); k_whole))
  trivial
theorem bits_le {x : Int} (h : 0 ≤ x ∧ x ≤ 144) : Builtin.Int.intBits x ≤ 8 := by
  have : ∀ k : Nat, k < 145 → Builtin.Int.intBits (k : Int) ≤ 8 := by decide +kernel
  have e : x = (x.toNat : Int) := by omega
  rw [e]; exact this _ (by omega)
theorem digs_le {x n : Int} (h : 0 ≤ x ∧ x ≤ 144) (hn : 1 ≤ n ∧ n ≤ 4) : 0 ≤ ((Builtin.Int.intBits x : Int) + n - 1).fdiv n ∧ ((Builtin.Int.intBits x : Int) + n - 1).fdiv n ≤ 8 := by
  have hb := bits_le h
  have : ∀ b : Nat, b < 9 → ∀ k : Nat, k < 4 → 0 ≤ ((b : Int) + (k + 1 : Nat) - 1).fdiv (k + 1 : Nat) ∧ ((b : Int) + (k + 1 : Nat) - 1).fdiv (k + 1 : Nat) ≤ 8 := by decide +kernel
  have e : n = ((n.toNat - 1 + 1 : Nat) : Int) := by omega
  rw [e]; exact this _ (by omega) _ (by omega)

noncomputable def zeros (t : Tok) : Nat → List Value
  | 0 => []
  | k + 1 => .int 0 t :: zeros t k
theorem zeros_eq (t : Tok) : ∀ k : Nat, (List.replicate k [Value.int 0 t]).flatten = zeros t k
  | 0 => rfl
  | k + 1 => by rw [List.replicate_succ, List.flatten_cons, zeros_eq t k]; rfl
theorem zeros_ints (t : Tok) : ∀ k : Nat, IntsAre (zeros t k) (List.replicate k 0)
  | 0 => .nil
  | k + 1 => .cons 0 t (zeros_ints t k)
theorem mul0 {prog : Program} {A : Around} {news : List (Addr × Obj)} {l : Addr} {x : Int} {t u : Tok} (Fm : Fr h₀ L s.heap m) (N : News h₀ L s.heap news) (hl : s.heap.IsList l [Value.int 0 t].toArray) (hx : 0 ≤ x ∧ x ≤ 8)
    (h : ∀ D h' vs, Fr h₀ L h' m → News h₀ L h' ((D, PySem.W.listOf (List.toArray vs) 0) :: news) → (∀ p ∈ news, p.1 < D) → IntsAre vs (List.replicate x.toNat 0) → Q (.ref D) { s with heap := h' }) : wpAny (model prog w) A (binaryOp .Mult (.ref l) (.int x u)) Q E s :=
  KMa.mul Fm N hl (by omega) (by omega) (by simp only [List.length_cons, List.length_nil]; omega) (zeros_eq t x.toNat) fun D h' F' N' l' => h D h' _ F' N' l' (zeros_ints t _)
theorem linesMn10x3 : True := by
  k_with "binaryOp Mult ref int" => ((k_here; (with_reducible show wpAny _ _ (binaryOp Operator.Mult (Value.ref _) (Value.int _ _)) _ _ _); k_dflt (refine' mul0 ?Fz48 ?Nz48 ?lz48 ?zz48 ?_; (case Fz48 => k_asm); (case Nz48 => k_asm); (case lz48 => is_list); (case zz48 => assumption); k_whole); intro D' h' vs' F' N' l1 hi'; (try k_lt l1); (try k_sweep)))
  k_with "call ref" => (refine ofMark ?_)
  trivial
theorem lenI {prog : Program} {A : Around} {l : Addr} {vs : List Value} {ns : List Int} (hl : s.heap.IsList l vs.toArray) (hi : IntsAre vs ns) (hf : ns.length ≤ 1000) (h : Q (.int (ns.length : Int) (s.toks + 1)) { s with toks := s.toks + 1 + 1 }) :
    wpAny (model prog w) A (call (.builtin "len") [.ref l]) Q E s := by
  have e : vs.toArray.size = ns.length := by rw [List.size_toArray]; exact hi.length
  exact len_list hl (by omega) (by rw [e]; exact h)
theorem linesMn10x4 : True := by
  k_with "call builtin:len" => ((k_here; (with_reducible show wpAny _ _ (call (Value.builtin "len") [Value.ref _]) _ _ _); k_dflt (refine' lenI ?lz50 ?iz50 ?fz50 ?_; (case lz50 => is_list); (case iz50 => with_reducible assumption); (case fz50 => (simp only [List.length_replicate]; omega)); k_whole); (try dsimp only)))
  trivial
theorem newsU {h h' : Heap} {d : Addr} {o o' : Obj} {led led' : List (Addr × Obj)} (N : News h₀ L h led) (U : Upd d o o' led led') (k : Keeps [d] h h') (g : h'.get? d = some o') : News h₀ L h' led' := by
  obtain ⟨pre, post, rfl, rfl, a, b⟩ := U.split
  intro p hp
  have P : ∀ y ∈ pre ++ (d, o) :: post, y.1 ≠ d → h'.get? y.1 = some y.2 ∧ y.1 ≠ L ∧ h₀.get? y.1 = none := fun y hy q => ⟨k _ _ (N y hy).1 (by simpa using q), (N y hy).2⟩
  rcases List.mem_append.mp hp with q | q
  · exact P p (List.mem_append_left _ q) (a p q)
  · rcases List.mem_cons.mp q with rfl | q
    · exact ⟨g, (N (d, o) (by simp)).2⟩
    · exact P p (List.mem_append_right _ (.tail _ q)) (b p q)
theorem newsU' {h h' : Heap} {d : Addr} {o o' : Obj} {led led' : List (Addr × Obj)} {P : Prop} (N : News h₀ L h led) (U : Upd d o o' led led') (k : Keeps [d] h h') (g : h'.get? d = some o') (f : News h₀ L h' led' → P) : P := f (newsU N U k g)
theorem news2c {h : Heap} {p q : Addr × Obj} (h1 : h.get? p.1 = some p.2 ∧ p.1 ≠ L ∧ h₀.get? p.1 = none) (h2 : h.get? q.1 = some q.2 ∧ q.1 ≠ L ∧ h₀.get? q.1 = none) : News h₀ L h [p, q] := fun x hx => by
  rcases List.mem_cons.mp hx with rfl | hx
  · exact h1
  · rcases List.mem_singleton.mp hx with rfl; exact h2
/-- a code's table: empty, or with the one nested code that was made -/
noncomputable def TabS (P line col : Nat) (q : Str) (o : Obj) (c : Addr) (oc : Obj) : Prop :=
  (o = tabObj #[] ∧ c = P ∧ oc = o) ∨ (o = tabObj #[rawInt line, rawInt col, .ref c] ∧ c ≠ P ∧ ∃ fs t, oc.data = .fields fs ∧ fs[1]? = some (.str q t))
noncomputable def qA : Str := Str.ofString "_int2digits" ++ Str.ofString ".<locals>." ++ Str.ofString "inner"
theorem fill_okBy : ∀ n : Nat, n < 4 → ∀ x : Nat, x < 145 → fillOk ((n + 1 : Nat) : Int) 8 (x : Int) 0 (((Builtin.Int.intBits (x : Int) : Int) + ((n + 1 : Nat) : Int) - 1).fdiv ((n + 1 : Nat) : Int)) = true
  | 0, _ => by decide +kernel
  | 1, _ => by decide +kernel
  | 2, _ => by decide +kernel
  | 3, _ => by decide +kernel
  | k + 4, h => absurd h (Nat.not_lt.mpr (Nat.le_add_left 4 k))
theorem fill_ok : ∀ x : Nat, x < 145 → ∀ n : Nat, n < 4 → fillOk ((n + 1 : Nat) : Int) 8 (x : Int) 0 (((Builtin.Int.intBits (x : Int) : Int) + ((n + 1 : Nat) : Int) - 1).fdiv ((n + 1 : Nat) : Int)) = true := fun x hx n hn => fill_okBy n hn x hx
theorem fillOk_of {x n : Int} (hx : 0 ≤ x ∧ x ≤ 144) (hn : 1 ≤ n ∧ n ≤ 4) : fillOk n 8 x 0 (((Builtin.Int.intBits x : Int) + n - 1).fdiv n) = true := by
  have e : n = ((n.toNat - 1 + 1 : Nat) : Int) := by omega
  have e2 : x = (x.toNat : Int) := by omega
  rw [e, e2]; exact fill_ok _ (by omega) _ (by omega)
theorem digs_pos {x n : Int} (hx : 0 ≤ x ∧ x ≤ 144) (hn : 1 ≤ n ∧ n ≤ 4) (h : x ≠ 0) : 0 < ((Builtin.Int.intBits x : Int) + n - 1).fdiv n := by
  have h1 : 1 ≤ (Builtin.Int.intBits x : Int) := by
    have : (x == 0) = false := by simpa using h
    simp only [Builtin.Int.intBits, this, if_false, Bool.false_eq_true]; omega
  rw [Int.fdiv_eq_ediv_of_nonneg _ (by omega)]
  exact Int.lt_of_lt_of_le (by decide) (Int.le_ediv_of_mul_le (c := n) (a := 1) (by omega) (by omega))
/-- the digits that _int2digits tells -/
noncomputable def digs (x n : Int) : List Int := if x = 0 then List.replicate (((Builtin.Int.intBits x : Int) + n - 1).fdiv n).toNat 0 else fillF n 8 x 0 (((Builtin.Int.intBits x : Int) + n - 1).fdiv n) (List.replicate (((Builtin.Int.intBits x : Int) + n - 1).fdiv n).toNat 0)
theorem i2dE_ok {x n : Int} {t1 t2 : Tok} {cA : Addr} {ocA : Obj} {fs : Array Value} {tq : Tok}
   (F : Fr h₀ L s.heap m) (X : (Mine.hd.heap_1 w.params).In h₀) (T : Top pg lz mean mg mb h₀)
   (N : News h₀ L s.heap [(51, tabObj #[])]) (C1 : CodeHd h₀ 55 51) 
   (hd : dp + 12 < recursionLimit) (hx : 0 ≤ x ∧ x ≤ 144) (hn : 1 ≤ n ∧ n ≤ 4) 
   (hret : ∀ (v : Addr) (h' : Heap) (tk' : Nat) (vs' : List Value) (e' : Nat) (oA' : Obj) (cA' : Addr) (ocA' : Obj), Keeps [51] s.heap h' → s.heap.get? v = none → h'.get? v = some (PySem.W.listOf vs'.toArray e') → IntsAre vs' (digs x n) →
      News h₀ L h' [(51, oA'), (cA', ocA')] → TabS 51 55 4 qA oA' cA' ocA' → (cA' = cA ∨ s.heap.get? cA' = none) → Q (.ref v) { s with heap := h', toks := tk' }) :
   wpAny (model PySem.Challenge.rw_ph0126_01.row.prog w) (ktrTop dp un gd cn cs L a ccd cl outer) (call (.ref 56) [.int x t1, .int n t2]) Q E s := by
  revert X; k_fill; intro X
  refine wpAny_call ?_
  k_dflt (walk_at "mine enterC")
  intro g' L' h' tk' cells' K' hL' F' N' Y' X' T' l'
  k_cells Y'
  (try simp only [List.cons_append, List.nil_append] at N')
  have C1 := C1.keeps (staysOf F N K')
  have hK := digs_le hx hn
  k_lt l'
  (try dsimp only); (try k_fold)
  k_steps
  · have hpos := digs_pos hx hn (by assumption)
    have e1 : ((List.replicate (((Builtin.Int.intBits x : Int) + n - 1).fdiv n).toNat (0 : Int)).length : Int) = ((Builtin.Int.intBits x : Int) + n - 1).fdiv n := by rw [List.length_replicate]; omega
    rename News _ _ _ _ => N1; rename Fr _ _ _ _ => F1; rename IntsAre _ _ => i1
    refine mark ?_
    rw [e1]
    refine' innerA_ok rfl hn ?hlt ?hoc ?hfs ?d1 ?d2 ?d3 8 F1 X' T' (news6p N1 ?n1 ?n2 ?n3 ?n4 ?n5 ?n6) C1 i1 ⟨by decide, hpos, hK.2⟩ (by rw [e1]; exact Int.le_refl _) (by omega) (fillOk_of hx hn) (by ktr_room) ?_
    case n1 => k_mem
    case n2 => k_mem
    case n4 => k_mem
    case n5 => k_mem
    case n6 => k_mem
    case d2 => assumption
    case n3 => k_mem
    case hoc => assumption
    case hfs => assumption
    case d1 => assumption
    case d3 => assumption
    case hlt => refine ⟨ltN ?_, ltN ?_, ltN ?_, ltN ?_, ?_⟩ <;> first | omega | exact .inr ⟨ltN (by omega), ltN (by omega)⟩ | exact .inl (ltN (by omega))
    intro h2 tk2 vs2 e2 K2 g2 i2
    have F2 := frAfter F1 N1 (ms := [_]) (by intro b hb; rcases List.mem_singleton.mp hb with rfl; exact ⟨_, List.Mem.tail _ (List.Mem.tail _ (List.Mem.head _))⟩) K2
    refine' newsU' N1 ?U K2 g2 ?_
    case U => k_upd
    intro N2
    clear F1 N1
    dsimp only
    k_steps
    rename News _ _ _ _ => N'; rename Fr _ _ _ _ => F'
    have P := fun p hp => newsUp F N K' N' (p := p) hp
    refine hret _ _ _ _ _ _ _ _ (keepsOf K' N F' N' (by simp)) (freshOf K' N' (List.Mem.tail _ (List.Mem.tail _ (List.Mem.head _))) (by k_all)) (N' _ (List.Mem.tail _ (List.Mem.tail _ (List.Mem.head _)))).1 (by rw [digs, if_neg (by assumption)]; exact i2) (news2c (P _ (List.Mem.tail _ (List.Mem.tail _ (List.Mem.tail _ (List.Mem.tail _ (List.Mem.tail _ (List.Mem.tail _ (List.Mem.tail _ (List.Mem.head _))))))))) (P _ (List.Mem.tail _ (List.Mem.head _)))) (.inr ⟨by first | rfl | simp, by k_ne, _, _, (by assumption), (by assumption)⟩) (.inr (freshOf K' N' (List.Mem.tail _ (List.Mem.head _)) (by k_all)))
  · rename IntsAre _ _ => i1
    rename News _ _ _ _ => N'; rename Fr _ _ _ _ => F'
    have P := fun p hp => newsUp F N K' N' (p := p) hp
    refine hret _ _ _ _ _ _ _ _ (keepsOf K' N F' N' (by simp)) (freshOf K' N' (List.Mem.tail _ (List.Mem.tail _ (List.Mem.head _))) (by k_all)) (N' _ (List.Mem.tail _ (List.Mem.tail _ (List.Mem.head _)))).1 (by rw [digs, if_pos (by assumption)]; exact i1) (news2c (P _ (List.Mem.tail _ (List.Mem.tail _ (List.Mem.tail _ (List.Mem.tail _ (List.Mem.tail _ (List.Mem.tail _ (List.Mem.tail _ (List.Mem.head _))))))))) (P _ (List.Mem.tail _ (List.Mem.head _)))) (.inr ⟨by first | rfl | simp, by k_ne, _, _, (by assumption), (by assumption)⟩) (.inr (freshOf K' N' (List.Mem.tail _ (List.Mem.head _)) (by k_all)))
theorem i2dH_ok {x n : Int} {t1 t2 : Tok} {cA : Addr} {ocA : Obj} {fs : Array Value} {tq : Tok}
   (F : Fr h₀ L s.heap m) (X : (Mine.hd.heap_1 w.params).In h₀) (T : Top pg lz mean mg mb h₀)
   (N : News h₀ L s.heap [(51, tabObj #[rawInt 55, rawInt 4, .ref cA]), (cA, ocA)]) (C1 : CodeHd h₀ 55 51) (hne : cA ≠ 51) (hoc : ocA.data = .fields fs) (hfs : fs[1]? = some (.str qA tq))
   (hd : dp + 12 < recursionLimit) (hx : 0 ≤ x ∧ x ≤ 144) (hn : 1 ≤ n ∧ n ≤ 4) 
   (hret : ∀ (v : Addr) (h' : Heap) (tk' : Nat) (vs' : List Value) (e' : Nat) (oA' : Obj) (cA' : Addr) (ocA' : Obj), Keeps [51] s.heap h' → s.heap.get? v = none → h'.get? v = some (PySem.W.listOf vs'.toArray e') → IntsAre vs' (digs x n) →
      News h₀ L h' [(51, oA'), (cA', ocA')] → TabS 51 55 4 qA oA' cA' ocA' → (cA' = cA ∧ ocA' = ocA) → Q (.ref v) { s with heap := h', toks := tk' }) :
   wpAny (model PySem.Challenge.rw_ph0126_01.row.prog w) (ktrTop dp un gd cn cs L a ccd cl outer) (call (.ref 56) [.int x t1, .int n t2]) Q E s := by
  revert X; k_fill; intro X
  refine wpAny_call ?_
  k_dflt (walk_at "mine enterC")
  intro g' L' h' tk' cells' K' hL' F' N' Y' X' T' l'
  k_cells Y'
  (try simp only [List.cons_append, List.nil_append] at N')
  have C1 := C1.keeps (staysOf F N K')
  have hK := digs_le hx hn
  k_lt l'
  (try dsimp only); (try k_fold)
  k_steps
  · have hpos := digs_pos hx hn (by assumption)
    have e1 : ((List.replicate (((Builtin.Int.intBits x : Int) + n - 1).fdiv n).toNat (0 : Int)).length : Int) = ((Builtin.Int.intBits x : Int) + n - 1).fdiv n := by rw [List.length_replicate]; omega
    rename News _ _ _ _ => N1; rename Fr _ _ _ _ => F1; rename IntsAre _ _ => i1
    refine mark ?_
    rw [e1]
    refine' innerA_ok rfl hn ?hlt ?hoc ?hfs ?d1 ?d2 ?d3 8 F1 X' T' (news6p N1 ?n1 ?n2 ?n3 ?n4 ?n5 ?n6) C1 i1 ⟨by decide, hpos, hK.2⟩ (by rw [e1]; exact Int.le_refl _) (by omega) (fillOk_of hx hn) (by ktr_room) ?_
    case n1 => k_mem
    case n2 => k_mem
    case n4 => k_mem
    case n5 => k_mem
    case n6 => k_mem
    case d2 => assumption
    case n3 => k_mem
    case hoc => assumption
    case hfs => assumption
    case d1 => assumption
    case d3 => assumption
    case hlt => refine ⟨ltN ?_, ltN ?_, ltN ?_, ltN ?_, ?_⟩ <;> first | omega | exact .inr ⟨ltN (by omega), ltN (by omega)⟩ | exact .inl (ltN (by omega))
    intro h2 tk2 vs2 e2 K2 g2 i2
    have F2 := frAfter F1 N1 (ms := [_]) (by intro b hb; rcases List.mem_singleton.mp hb with rfl; exact ⟨_, List.Mem.tail _ (List.Mem.head _)⟩) K2
    refine' newsU' N1 ?U K2 g2 ?_
    case U => k_upd
    intro N2
    clear F1 N1
    dsimp only
    k_steps
    rename News _ _ _ _ => N'; rename Fr _ _ _ _ => F'
    have P := fun p hp => newsUp F N K' N' (p := p) hp
    refine hret _ _ _ _ _ _ _ _ (keepsOf K' N F' N' (by simp)) (freshOf K' N' (List.Mem.tail _ (List.Mem.head _)) (by k_all)) (N' _ (List.Mem.tail _ (List.Mem.head _))).1 (by rw [digs, if_neg (by assumption)]; exact i2) (news2c (P _ (List.Mem.tail _ (List.Mem.tail _ (List.Mem.tail _ (List.Mem.tail _ (List.Mem.tail _ (List.Mem.tail _ (List.Mem.head _)))))))) (P _ (List.Mem.tail _ (List.Mem.tail _ (List.Mem.tail _ (List.Mem.tail _ (List.Mem.tail _ (List.Mem.tail _ (List.Mem.tail _ (List.Mem.head _)))))))))) (.inr ⟨by first | rfl | simp, hne, _, _, (by assumption), (by assumption)⟩) ⟨rfl, rfl⟩
  · rename IntsAre _ _ => i1
    rename News _ _ _ _ => N'; rename Fr _ _ _ _ => F'
    have P := fun p hp => newsUp F N K' N' (p := p) hp
    refine hret _ _ _ _ _ _ _ _ (keepsOf K' N F' N' (by simp)) (freshOf K' N' (List.Mem.tail _ (List.Mem.head _)) (by k_all)) (N' _ (List.Mem.tail _ (List.Mem.head _))).1 (by rw [digs, if_pos (by assumption)]; exact i1) (news2c (P _ (List.Mem.tail _ (List.Mem.tail _ (List.Mem.tail _ (List.Mem.tail _ (List.Mem.tail _ (List.Mem.tail _ (List.Mem.head _)))))))) (P _ (List.Mem.tail _ (List.Mem.tail _ (List.Mem.tail _ (List.Mem.tail _ (List.Mem.tail _ (List.Mem.tail _ (List.Mem.tail _ (List.Mem.head _)))))))))) (.inr ⟨by first | rfl | simp, hne, _, _, (by assumption), (by assumption)⟩) ⟨rfl, rfl⟩
end
/-! text Mn11 -/
section
theorem linesMn11x1 : True := by
  k_with_none
  k_with "mine enter" => ((refine' enter ?k2z51 ?k3z51 ?k4z51 ?k5z51 ?k6z51 ?k7z51 ?k8z51 ?k9z51 ?kBz51 ?_ ?c2z51 ?c3z51 ?c4z51 ?c5z51; (case k2z51 => k_asm); (case k3z51 => k_asm); (case k4z51 => k_asm); (case k5z51 => k_asm); (case k6z51 => k_is); (case k7z51 => k_is); (case k8z51 => ktr_room); (case k9z51 => exact BindsTo.of_eq rfl); (case c5z51 => decide); (case kBz51 => exact locs rfl); (case c2z51 => exact rfl); (case c3z51 => exact rfl); (case c4z51 => exact rfl); k_whole))
  k_with "mine keeps" => (((with_reducible rename Keeps _ _ _ => kK); (have F' := frAfter0 (by k_asm) kK); (have N' := newsAfter0 (by k_asm) kK); clear kK; (try k_sweep)))
  k_with "mine made" => (((with_reducible rename Keeps _ _ _ => kK); rename (Heap.get? _ _ = none) => kn; rename (Heap.get? _ _ = some _) => ks; (have l1 := allNe_of (by k_asm) kn); (have N' := newsIn (by k_asm) kn ks (newsAfter0 (by k_asm) kK)); (have F' := frAfter0 (by k_asm) kK); clear kK kn ks; (try k_sweep)))
  trivial
variable {pg : Program} {lz : List Str} {w : World} {mean : ExcName → Option Value} {mg mb : Str → Option Value}
   {dp un : Nat} {gd : Option (List Code)} {cn : Str} {cs : Scope} {a : Addr} {ccd : Value} {cl : List (Str × Addr)} {outer : List Env} {h₀ : Heap} {L : Addr} {m : Str → Option Value} {s : Shared} {Q E : Value → Shared → Prop}
theorem linesMn11x2 : True := by
  k_with "mine enterC" => ((refine' enterC ?k2z54 ?k3z54 ?k4z54 ?k5z54 ?k6z54 ?k7z54 ?k8z54 ?k9z54 ?kBz54 ?kDz54 ?_ ?c2z54 ?c3z54 ?c4z54; (case k2z54 => k_asm); (case k3z54 => k_asm); (case k4z54 => k_asm); (case k5z54 => k_asm); (case k6z54 => k_is); (case k7z54 => k_is); (case k8z54 => ktr_room); (case k9z54 => exact BindsTo.of_eq rfl); (case kBz54 => exact rfl); (case kDz54 => decide +kernel); (case c2z54 => exact rfl); (case c3z54 => exact rfl); (case c4z54 => exact rfl); k_whole))
  k_with "call ref" => (refine ofMark ?_)
  k_with "call builtin:len" => ((k_here; (with_reducible show wpAny _ _ (call (Value.builtin "len") [Value.ref _]) _ _ _); k_dflt (refine' lenI ?lz56 ?iz56 ?fz56 ?_; (case lz56 => is_list); (case iz56 => with_reducible assumption); (case fz56 => (simp only [List.length_replicate]; omega)); k_whole); (try dsimp only)))
  trivial

noncomputable def joinF (n : Int) (ds : List Int) : Nat → Int → Int → Int
  | 0, _, _ => 0
  | k + 1, lo, hi => if lo + 1 = hi then ds.getD lo.toNat 0 else joinF n ds k (midI lo hi) hi * 2 ^ (shI n lo hi).toNat + joinF n ds k lo (midI lo hi)
noncomputable def joinOk (n : Int) (ds : List Int) : Nat → Int → Int → Bool
  | 0, _, _ => true
  | k + 1, lo, hi => decide (lo + 1 = hi) || (decide ((joinF n ds k (midI lo hi) hi).natAbs < 2 ^ 64) && joinOk n ds k (midI lo hi) hi && joinOk n ds k lo (midI lo hi))
section
theorem linesMn11x3 : True := by
  k_with "mine enterN" => ((refine' enterN ?k2z57 ?k3z57 ?k4z57 ?k5z57 ?k6z57 ?k7z57 ?k8z57 ?k9z57 ?kBz57 ?_ ?c2z57 ?c3z57 ?c4z57 ?c5z57; (case k2z57 => k_asm); (case k3z57 => k_asm); (case k4z57 => k_asm); (case k5z57 => k_asm); (case k6z57 => k_mem); (case k7z57 => exact codeRec_news (by k_asm) (by k_mem) (by assumption) (by assumption)); (case k8z57 => ktr_room); (case k9z57 => exact BindsTo.of_eq rfl); (case c5z57 => decide); (case kBz57 => exact locs rfl); (case c2z57 => exact rfl); (case c3z57 => exact rfl); (case c4z57 => exact rfl); k_whole))
  k_with "binaryOp RShift int int" => ((k_here; (refine rshift_int ?kbnz58 ?_); (case kbnz58 => with_unfolding_all assumption); (try dsimp only)))
  k_with "binaryOp LShift int int" => ((k_here; (refine lshift_int_small ?kb1z59 ?kb2z59 ?kb3z59 ?_); (case kb1z59 => assumption); (case kb2z59 => assumption); (case kb3z59 => assumption); (try dsimp only)))
  trivial
theorem innerB_ok {qual : Str} {params : Arguments} {body : List Stmt} {scope : Scope} {doc pm ctv : Value} {c' : Addr} {oc : Obj} {fs : Array Value} {tq tn : Tok} {n : Int} {fi c1 c2 c3 dl : Addr} {o1 o2 o3 : Obj} {vs : List Value} {e : Nat} {ds : List Int}
   (hI : innerB = some (params, body, scope)) (hn : 1 ≤ n ∧ n ≤ 4)
   (hoc : oc.data = .fields fs) (hfs : fs[1]? = some (.str qual tq)) (d1 : o1.data = .cell (some (.ref dl))) (d2 : o2.data = .cell (some (.int n tn))) (d3 : o3.data = .cell (some (.ref fi))) (hi : IntsAre vs ds) (k : Nat) :
   ∀ {dp un : Nat} {gd : Option (List Code)} {cn : Str} {cs : Scope} {a : Addr} {ccd : Value} {cl : List (Str × Addr)} {outer : List Env} {h₀ : Heap} {L : Addr} {m : Str → Option Value} {s : Shared} {Q E : Value → Shared → Prop} {lo hi : Int} {tl th : Tok}
   (F : Fr h₀ L s.heap m) (X : (Mine.hd.heap_1 w.params).In h₀) (T : Top pg lz mean mg mb h₀)
   (N : News h₀ L s.heap [(fi, fnMade (Str.ofString "inner") qual params body scope [(Str.ofString "n", c2), (Str.ofString "inner", c3), (Str.ofString "digits", c1)] doc pm c' ctv), (c', oc), (dl, PySem.W.listOf vs.toArray e), (c3, o3), (c2, o2), (c1, o1)])
   (C : CodeHd h₀ 62 58)
   (hb : 0 ≤ lo ∧ lo < hi ∧ hi ≤ 8) (hb1 : hi ≤ (ds.length : Int)) (hb2 : hi - lo ≤ k) (hx : joinOk n ds k lo hi = true)
   (hd : dp + k + 1 < recursionLimit)
   (hret : ∀ (h' : Heap) (tk' : Nat) (t : Tok), Keeps [] s.heap h' → Q (.int (joinF n ds k lo hi) t) { s with heap := h', toks := tk' }),
   wpAny (model PySem.Challenge.rw_ph0126_01.row.prog w) (ktrTop dp un gd cn cs L a ccd cl outer) (call (.ref fi) [.int lo tl, .int hi th]) Q E s := by
  conv at hI => lhs; whnf
  injection hI with hI
  injection hI with e1 e2
  injection e2 with e2 e3
  subst e1 e2 e3
  induction k with
  | zero => intros; omega
  | succ k ih =>
    intro dp un gd cn cs a ccd cl outer h₀ L m s Q E lo hi tl th F X T N C hb hb1 hb2 hx hd hret
    revert X; k_fill; intro X
    refine wpAny_call ?_
    k_dflt (walk_at "mine enterN")
    intro g' L' h' K' hL' F' N' X' T' l'
    have C := C.keeps (staysOf F N K')
    by_cases hq : lo + 1 = hi
    · clear ih
      (try dsimp only); (try k_fold)
      k_steps
      · rename News _ _ _ _ => N'; rename Fr _ _ _ _ => F'
        simp only [joinF, hq, if_true] at hret
        exact hret _ _ _ (keepsOf K' N F' N' (by simp))
      · exfalso; omega
    · simp only [joinOk, hq, decide_false, Bool.false_or, Bool.and_eq_true, decide_eq_true_eq] at hx
      obtain ⟨⟨hx2, hx3⟩, hx4⟩ := hx
      obtain ⟨hm1, hm2, hm3, hm4⟩ := midFacts hn hb hq
      have q1 : midI lo hi ≤ 8 := by omega
      have q2 : midI lo hi ≤ (ds.length : Int) := by omega
      have q3 : midI lo hi - lo ≤ (k : Int) := by omega
      have q4 : hi - midI lo hi ≤ (k : Int) := by omega
      have q5 : 0 ≤ midI lo hi := by omega
      have hS1 : 0 ≤ ((lo + hi).fdiv (2 ^ Int.toNat 1) - lo) * n := hm3
      have hS2 : ((lo + hi).fdiv (2 ^ Int.toNat 1) - lo) * n ≤ 1000000 := Int.le_trans hm4 (by decide)
      have hS3 : (joinF n ds k ((lo + hi).fdiv (2 ^ Int.toNat 1)) hi).natAbs < 2 ^ 64 := hx2
      (try dsimp only); (try k_fold)
      k_steps
      · exfalso; omega
      · refine mark ?_
        rename News _ _ _ _ => N1; rename Fr _ _ _ _ => F1
        refine ih F1 X' T' N1 C ⟨q5, hm2, hb.2.2⟩ hb1 q4 hx3 (by ktr_room) ?_
        intro h2 tk2 t2 K2
        have F2 := frAfter0 F1 K2
        have N2 := newsAfter0 N1 K2
        clear F1 N1
        dsimp only
        k_steps
        refine mark ?_
        rename News _ _ _ _ => N1; rename Fr _ _ _ _ => F1
        refine ih F1 X' T' N1 C ⟨hb.1, hm1, q1⟩ q2 q3 hx4 (by ktr_room) ?_
        intro h2 tk2 t2 K2
        have F2 := frAfter0 F1 K2
        have N2 := newsAfter0 N1 K2
        clear F1 N1
        dsimp only
        k_steps
        rename News _ _ _ _ => N'; rename Fr _ _ _ _ => F'
        simp only [joinF, hq, if_false] at hret
        exact hret _ _ _ (keepsOf K' N F' N' (by simp))
end
end
/-! text Mn12 -/
section
theorem linesMn12x1 : True := by
  k_with_none
  k_with "mine enter" => ((refine' enter ?k2z60 ?k3z60 ?k4z60 ?k5z60 ?k6z60 ?k7z60 ?k8z60 ?k9z60 ?kBz60 ?_ ?c2z60 ?c3z60 ?c4z60 ?c5z60; (case k2z60 => k_asm); (case k3z60 => k_asm); (case k4z60 => k_asm); (case k5z60 => k_asm); (case k6z60 => k_is); (case k7z60 => k_is); (case k8z60 => ktr_room); (case k9z60 => exact BindsTo.of_eq rfl); (case c5z60 => decide); (case kBz60 => exact locs rfl); (case c2z60 => exact rfl); (case c3z60 => exact rfl); (case c4z60 => exact rfl); k_whole))
  k_with "mine keeps" => (((with_reducible rename Keeps _ _ _ => kK); (have F' := frAfter0 (by k_asm) kK); (have N' := newsAfter0 (by k_asm) kK); clear kK; (try k_sweep)))
  k_with "mine made" => (((with_reducible rename Keeps _ _ _ => kK); rename (Heap.get? _ _ = none) => kn; rename (Heap.get? _ _ = some _) => ks; (have l1 := allNe_of (by k_asm) kn); (have N' := newsIn (by k_asm) kn ks (newsAfter0 (by k_asm) kK)); (have F' := frAfter0 (by k_asm) kK); clear kK kn ks; (try k_sweep)))
  trivial
variable {pg : Program} {lz : List Str} {w : World} {mean : ExcName → Option Value} {mg mb : Str → Option Value}
   {dp un : Nat} {gd : Option (List Code)} {cn : Str} {cs : Scope} {a : Addr} {ccd : Value} {cl : List (Str × Addr)} {outer : List Env} {h₀ : Heap} {L : Addr} {m : Str → Option Value} {s : Shared} {Q E : Value → Shared → Prop}
theorem linesMn12x2 : True := by
  k_with "mine enterC" => ((refine' enterC ?k2z63 ?k3z63 ?k4z63 ?k5z63 ?k6z63 ?k7z63 ?k8z63 ?k9z63 ?kBz63 ?kDz63 ?_ ?c2z63 ?c3z63 ?c4z63; (case k2z63 => k_asm); (case k3z63 => k_asm); (case k4z63 => k_asm); (case k5z63 => k_asm); (case k6z63 => k_is); (case k7z63 => k_is); (case k8z63 => ktr_room); (case k9z63 => exact BindsTo.of_eq rfl); (case kBz63 => exact rfl); (case kDz63 => decide +kernel); (case c2z63 => exact rfl); (case c3z63 => exact rfl); (case c4z63 => exact rfl); k_whole))
  k_with "call ref" => (refine ofMark ?_)
  k_with "call builtin:len" => ((k_here; (with_reducible show wpAny _ _ (call (Value.builtin "len") [Value.ref _]) _ _ _); k_dflt (refine' lenI ?lz65 ?iz65 ?fz65 ?_; (case lz65 => is_list); (case iz65 => with_reducible assumption); (case fz65 => (simp only [List.length_replicate]; omega)); k_whole); (try dsimp only)))
  trivial
noncomputable def qB : Str := Str.ofString "_digits2int" ++ Str.ofString ".<locals>." ++ Str.ofString "inner"
noncomputable def joinAll (n : Int) (ds : List Int) : Int := if 0 < ds.length then joinF n ds 8 0 (ds.length : Int) else 0
theorem d2iE_ok {n : Int} {t2 : Tok} {la : Addr} {vs : List Value} {e : Nat} {ds : List Int} {cB : Addr} {ocB : Obj} {fs : Array Value} {tq : Tok}
   (F : Fr h₀ L s.heap m) (X : (Mine.hd.heap_1 w.params).In h₀) (T : Top pg lz mean mg mb h₀)
   (N : News h₀ L s.heap [(la, PySem.W.listOf vs.toArray e), (58, tabObj #[])]) (C1 : CodeHd h₀ 62 58)  (hI : IntsAre vs ds) (hl : ds.length ≤ 8) (hla : @LT.lt Nat _ 58 la)
   (hd : dp + 12 < recursionLimit) (hn : 1 ≤ n ∧ n ≤ 4) (hj : 0 < ds.length → joinOk n ds 8 0 (ds.length : Int) = true)
   (hret : ∀ (h' : Heap) (tk' : Nat) (t : Tok) (oB' : Obj) (cB' : Addr) (ocB' : Obj), Keeps [58] s.heap h' → News h₀ L h' [(58, oB'), (cB', ocB')] → TabS 58 70 4 qB oB' cB' ocB' → (cB' = cB ∨ s.heap.get? cB' = none) → Q (.int (joinAll n ds) t) { s with heap := h', toks := tk' }) :
   wpAny (model PySem.Challenge.rw_ph0126_01.row.prog w) (ktrTop dp un gd cn cs L a ccd cl outer) (call (.ref 63) [.ref la, .int n t2]) Q E s := by
  revert X; k_fill; intro X
  refine wpAny_call ?_
  k_dflt (walk_at "mine enterC")
  intro g' L' h' tk' cells' K' hL' F' N' Y' X' T' l'
  k_cells Y'
  (try simp only [List.cons_append, List.nil_append] at N')
  have C1 := C1.keeps (staysOf F N K')
  k_lt l'
  (try dsimp only); (try k_fold)
  k_steps
  · rename (0 < List.length _) => hp
    rename News _ _ _ _ => N1; rename Fr _ _ _ _ => F1
    refine mark ?_
    refine' innerB_ok rfl hn ?hoc ?hfs ?d1 ?d2 ?d3 hI 8 F1 X' T' (news6p N1 ?n1 ?n2 ?n3 ?n4 ?n5 ?n6) C1 ⟨by decide, by omega, by omega⟩ (Int.le_refl _) (by omega) (hj hp) (by ktr_room) ?_
    case n1 => k_mem
    case n2 => k_mem
    case n4 => k_mem
    case n5 => k_mem
    case n6 => k_mem
    case d1 => assumption
    case n3 => k_mem
    case hoc => assumption
    case hfs => assumption
    case d2 => assumption
    case d3 => assumption
    intro h2 tk2 t2 K2
    have F' := frAfter0 F1 K2
    have N' := newsAfter0 N1 K2
    have P := fun p hp => newsUp F N K' N' (p := p) hp
    simp only [joinAll, hp, if_true] at hret
    exact hret _ _ _ _ _ _ (keepsOf K' N F' N' (by simp)) (news2c (P _ (List.Mem.tail _ (List.Mem.tail _ (List.Mem.tail _ (List.Mem.tail _ (List.Mem.tail _ (List.Mem.tail _ (List.Mem.head _)))))))) (P _ (List.Mem.tail _ (List.Mem.head _)))) (.inr ⟨by first | rfl | simp, by k_ne, _, _, (by assumption), (by assumption)⟩) (.inr (freshOf K' N' (List.Mem.tail _ (List.Mem.head _)) (by k_all)))
  · rename News _ _ _ _ => N'; rename Fr _ _ _ _ => F'
    have P := fun p hp => newsUp F N K' N' (p := p) hp
    have hp : ¬ 0 < ds.length := by omega
    simp only [joinAll, hp, if_false] at hret
    exact hret _ _ _ _ _ _ (keepsOf K' N F' N' (by simp)) (news2c (P _ (List.Mem.tail _ (List.Mem.tail _ (List.Mem.tail _ (List.Mem.tail _ (List.Mem.tail _ (List.Mem.tail _ (List.Mem.head _)))))))) (P _ (List.Mem.tail _ (List.Mem.head _)))) (.inr ⟨by first | rfl | simp, by k_ne, _, _, (by assumption), (by assumption)⟩) (.inr (freshOf K' N' (List.Mem.tail _ (List.Mem.head _)) (by k_all)))
theorem d2iH_ok {n : Int} {t2 : Tok} {la : Addr} {vs : List Value} {e : Nat} {ds : List Int} {cB : Addr} {ocB : Obj} {fs : Array Value} {tq : Tok}
   (F : Fr h₀ L s.heap m) (X : (Mine.hd.heap_1 w.params).In h₀) (T : Top pg lz mean mg mb h₀)
   (N : News h₀ L s.heap [(la, PySem.W.listOf vs.toArray e), (58, tabObj #[rawInt 70, rawInt 4, .ref cB]), (cB, ocB)]) (C1 : CodeHd h₀ 62 58) (hne : cB ≠ 58) (hoc : ocB.data = .fields fs) (hfs : fs[1]? = some (.str qB tq)) (hI : IntsAre vs ds) (hl : ds.length ≤ 8) (hla : @LT.lt Nat _ 58 la)
   (hd : dp + 12 < recursionLimit) (hn : 1 ≤ n ∧ n ≤ 4) (hj : 0 < ds.length → joinOk n ds 8 0 (ds.length : Int) = true)
   (hret : ∀ (h' : Heap) (tk' : Nat) (t : Tok) (oB' : Obj) (cB' : Addr) (ocB' : Obj), Keeps [58] s.heap h' → News h₀ L h' [(58, oB'), (cB', ocB')] → TabS 58 70 4 qB oB' cB' ocB' → (cB' = cB ∧ ocB' = ocB) → Q (.int (joinAll n ds) t) { s with heap := h', toks := tk' }) :
   wpAny (model PySem.Challenge.rw_ph0126_01.row.prog w) (ktrTop dp un gd cn cs L a ccd cl outer) (call (.ref 63) [.ref la, .int n t2]) Q E s := by
  revert X; k_fill; intro X
  refine wpAny_call ?_
  k_dflt (walk_at "mine enterC")
  intro g' L' h' tk' cells' K' hL' F' N' Y' X' T' l'
  k_cells Y'
  (try simp only [List.cons_append, List.nil_append] at N')
  have C1 := C1.keeps (staysOf F N K')
  k_lt l'
  (try dsimp only); (try k_fold)
  k_steps
  · rename (0 < List.length _) => hp
    rename News _ _ _ _ => N1; rename Fr _ _ _ _ => F1
    refine mark ?_
    refine' innerB_ok rfl hn ?hoc ?hfs ?d1 ?d2 ?d3 hI 8 F1 X' T' (news6p N1 ?n1 ?n2 ?n3 ?n4 ?n5 ?n6) C1 ⟨by decide, by omega, by omega⟩ (Int.le_refl _) (by omega) (hj hp) (by ktr_room) ?_
    case n1 => k_mem
    case n2 => k_mem
    case n4 => k_mem
    case n5 => k_mem
    case n6 => k_mem
    case d1 => assumption
    case n3 => k_mem
    case hoc => assumption
    case hfs => assumption
    case d2 => assumption
    case d3 => assumption
    intro h2 tk2 t2 K2
    have F' := frAfter0 F1 K2
    have N' := newsAfter0 N1 K2
    have P := fun p hp => newsUp F N K' N' (p := p) hp
    simp only [joinAll, hp, if_true] at hret
    exact hret _ _ _ _ _ _ (keepsOf K' N F' N' (by simp)) (news2c (P _ (List.Mem.tail _ (List.Mem.tail _ (List.Mem.tail _ (List.Mem.tail _ (List.Mem.tail _ (List.Mem.head _))))))) (P _ (List.Mem.tail _ (List.Mem.tail _ (List.Mem.tail _ (List.Mem.tail _ (List.Mem.tail _ (List.Mem.tail _ (List.Mem.head _))))))))) (.inr ⟨by first | rfl | simp, hne, _, _, (by assumption), (by assumption)⟩) ⟨rfl, rfl⟩
  · rename News _ _ _ _ => N'; rename Fr _ _ _ _ => F'
    have P := fun p hp => newsUp F N K' N' (p := p) hp
    have hp : ¬ 0 < ds.length := by omega
    simp only [joinAll, hp, if_false] at hret
    exact hret _ _ _ _ _ _ (keepsOf K' N F' N' (by simp)) (news2c (P _ (List.Mem.tail _ (List.Mem.tail _ (List.Mem.tail _ (List.Mem.tail _ (List.Mem.tail _ (List.Mem.head _))))))) (P _ (List.Mem.tail _ (List.Mem.tail _ (List.Mem.tail _ (List.Mem.tail _ (List.Mem.tail _ (List.Mem.tail _ (List.Mem.head _))))))))) (.inr ⟨by first | rfl | simp, hne, _, _, (by assumption), (by assumption)⟩) ⟨rfl, rfl⟩
end
/-! text Mn13 -/
section
theorem linesMn13x1 : True := by
  k_with_none
  k_with "mine enter" => ((refine' enter ?k2z66 ?k3z66 ?k4z66 ?k5z66 ?k6z66 ?k7z66 ?k8z66 ?k9z66 ?kBz66 ?_ ?c2z66 ?c3z66 ?c4z66 ?c5z66; (case k2z66 => k_asm); (case k3z66 => k_asm); (case k4z66 => k_asm); (case k5z66 => k_asm); (case k6z66 => k_is); (case k7z66 => k_is); (case k8z66 => ktr_room); (case k9z66 => exact BindsTo.of_eq rfl); (case c5z66 => decide); (case kBz66 => exact locs rfl); (case c2z66 => exact rfl); (case c3z66 => exact rfl); (case c4z66 => exact rfl); k_whole))
  k_with "mine keeps" => (((with_reducible rename Keeps _ _ _ => kK); (have F' := frAfter0 (by k_asm) kK); (have N' := newsAfter0 (by k_asm) kK); clear kK; (try k_sweep)))
  k_with "mine made" => (((with_reducible rename Keeps _ _ _ => kK); rename (Heap.get? _ _ = none) => kn; rename (Heap.get? _ _ = some _) => ks; (have l1 := allNe_of (by k_asm) kn); (have N' := newsIn (by k_asm) kn ks (newsAfter0 (by k_asm) kK)); (have F' := frAfter0 (by k_asm) kK); clear kK kn ks; (try k_sweep)))
  trivial
variable {pg : Program} {lz : List Str} {w : World} {mean : ExcName → Option Value} {mg mb : Str → Option Value}
   {dp un : Nat} {gd : Option (List Code)} {cn : Str} {cs : Scope} {a : Addr} {ccd : Value} {cl : List (Str × Addr)} {outer : List Env} {h₀ : Heap} {L : Addr} {m : Str → Option Value} {s : Shared} {Q E : Value → Shared → Prop}
theorem bits_le2 {x : Int} (h : 0 ≤ x ∧ x ≤ 1000) : Builtin.Int.intBits x ≤ 10 := by
  have : ∀ k : Nat, k < 1001 → Builtin.Int.intBits (k : Int) ≤ 10 := by decide +kernel
  have e : x = (x.toNat : Int) := by omega
  rw [e]; exact this _ (by omega)
theorem div2_ok {x y n : Int} {t1 t2 t3 : Tok}
   (F : Fr h₀ L s.heap m) (X : (Mine.hd.heap_1 w.params).In h₀) (T : Top pg lz mean mg mb h₀)
   (hd : dp + 2 < recursionLimit) (hx : 0 ≤ x ∧ x ≤ 1000) (hy : 1 ≤ y ∧ y ≤ 12) (hn : 1 ≤ n ∧ n ≤ 4)
   (hret : ∀ (v : Addr) (h' : Heap) (tk' : Nat) (u1 u2 : Tok), Keeps [] s.heap h' → s.heap.get? v = none → h'.get? v = some (tupO [.int (x.fdiv y) u1, .int (x.fmod y) u2]) → Q (.ref v) { s with heap := h', toks := tk' }) :
   wpAny (model PySem.Challenge.rw_ph0126_01.row.prog w) (ktrTop dp un gd cn cs L a ccd cl outer) (call (.ref 42) [.int x t1, .int y t2, .int n t3]) Q E s := by
  revert X; k_fill; intro X
  have N : News h₀ L s.heap [] := News.nil
  have hb := bits_le2 hx
  refine wpAny_call ?_
  k_dflt (walk_at "mine enter")
  intro g' L' h' K' hL' F' N' X' T' l'
  (try dsimp only); (try k_fold)
  k_steps
  rename News _ _ _ _ => N'; rename Fr _ _ _ _ => F'
  exact hret _ _ _ _ _ (keepsOf K' N F' N' (by simp)) (freshOf K' N' (.head _) (by simp)) (N' _ (.head _)).1
end
/-! text Mn14 -/
section
theorem linesMn14x1 : True := by
  k_with_none
  k_with "mine enter" => ((refine' enter ?k2z69 ?k3z69 ?k4z69 ?k5z69 ?k6z69 ?k7z69 ?k8z69 ?k9z69 ?kBz69 ?_ ?c2z69 ?c3z69 ?c4z69 ?c5z69; (case k2z69 => k_asm); (case k3z69 => k_asm); (case k4z69 => k_asm); (case k5z69 => k_asm); (case k6z69 => k_is); (case k7z69 => k_is); (case k8z69 => ktr_room); (case k9z69 => exact BindsTo.of_eq rfl); (case c5z69 => decide); (case kBz69 => exact locs rfl); (case c2z69 => exact rfl); (case c3z69 => exact rfl); (case c4z69 => exact rfl); k_whole))
  k_with "mine keeps" => (((with_reducible rename Keeps _ _ _ => kK); (have F' := frAfter0 (by k_asm) kK); (have N' := newsAfter0 (by k_asm) kK); clear kK; (try k_sweep)))
  k_with "mine made" => (((with_reducible rename Keeps _ _ _ => kK); rename (Heap.get? _ _ = none) => kn; rename (Heap.get? _ _ = some _) => ks; (have l1 := allNe_of (by k_asm) kn); (have N' := newsIn (by k_asm) kn ks (newsAfter0 (by k_asm) kK)); (have F' := frAfter0 (by k_asm) kK); clear kK kn ks; (try k_sweep)))
  trivial
variable {pg : Program} {lz : List Str} {w : World} {mean : ExcName → Option Value} {mg mb : Str → Option Value}
   {dp un : Nat} {gd : Option (List Code)} {cn : Str} {cs : Scope} {a : Addr} {ccd : Value} {cl : List (Str × Addr)} {outer : List Env} {h₀ : Heap} {L : Addr} {m : Str → Option Value} {s : Shared} {Q E : Value → Shared → Prop}
theorem i2d_ok {x n : Int} {t1 t2 : Tok} {oA : Obj} {cA : Addr} {ocA : Obj}
   (F : Fr h₀ L s.heap m) (X : (Mine.hd.heap_1 w.params).In h₀) (T : Top pg lz mean mg mb h₀)
   (N : News h₀ L s.heap [(51, oA), (cA, ocA)]) (hA : TabS 51 55 4 qA oA cA ocA) (C1 : CodeHd h₀ 55 51)
   (hd : dp + 12 < recursionLimit) (hx : 0 ≤ x ∧ x ≤ 144) (hn : 1 ≤ n ∧ n ≤ 4)
   (hret : ∀ (v : Addr) (h' : Heap) (tk' : Nat) (vs' : List Value) (e' : Nat) (oA' : Obj) (cA' : Addr) (ocA' : Obj), Keeps [51] s.heap h' → s.heap.get? v = none → h'.get? v = some (PySem.W.listOf vs'.toArray e') → IntsAre vs' (digs x n) →
      News h₀ L h' [(51, oA'), (cA', ocA')] → TabS 51 55 4 qA oA' cA' ocA' → (cA' = cA ∨ s.heap.get? cA' = none) → (cA ≠ 51 → cA' = cA ∧ ocA' = ocA) → Q (.ref v) { s with heap := h', toks := tk' }) :
   wpAny (model PySem.Challenge.rw_ph0126_01.row.prog w) (ktrTop dp un gd cn cs L a ccd cl outer) (call (.ref 56) [.int x t1, .int n t2]) Q E s := by
  rcases hA with ⟨rfl, rfl, rfl⟩ | ⟨rfl, hne, fs, t, hoc, hfs⟩
  · exact i2dE_ok (ocA := tabObj #[]) (fs := #[]) (tq := 0) F X T (news1 N (.head _)) C1 hd hx hn fun v h' tk' vs' e' oA' cA' ocA' a1 a2 a3 a4 a5 a6 a7 => hret v h' tk' vs' e' oA' cA' ocA' a1 a2 a3 a4 a5 a6 a7 (fun z => absurd rfl z)
  · exact i2dH_ok F X T N C1 hne hoc hfs hd hx hn fun v h' tk' vs' e' oA' cA' ocA' a1 a2 a3 a4 a5 a6 a7 => hret v h' tk' vs' e' oA' cA' ocA' a1 a2 a3 a4 a5 a6 (.inl a7.1) (fun _ => a7)
theorem d2i_ok {n : Int} {t2 : Tok} {la : Addr} {vs : List Value} {e : Nat} {ds : List Int} {oB : Obj} {cB : Addr} {ocB : Obj}
   (F : Fr h₀ L s.heap m) (X : (Mine.hd.heap_1 w.params).In h₀) (T : Top pg lz mean mg mb h₀)
   (N : News h₀ L s.heap [(la, PySem.W.listOf vs.toArray e), (58, oB), (cB, ocB)]) (hB : TabS 58 70 4 qB oB cB ocB) (C1 : CodeHd h₀ 62 58) (hI : IntsAre vs ds) (hl : ds.length ≤ 8) (hla : @LT.lt Nat _ 58 la)
   (hd : dp + 12 < recursionLimit) (hn : 1 ≤ n ∧ n ≤ 4) (hj : 0 < ds.length → joinOk n ds 8 0 (ds.length : Int) = true)
   (hret : ∀ (h' : Heap) (tk' : Nat) (t : Tok) (oB' : Obj) (cB' : Addr) (ocB' : Obj), Keeps [58] s.heap h' → News h₀ L h' [(58, oB'), (cB', ocB')] → TabS 58 70 4 qB oB' cB' ocB' → (cB' = cB ∨ s.heap.get? cB' = none) → (cB ≠ 58 → cB' = cB ∧ ocB' = ocB) → Q (.int (joinAll n ds) t) { s with heap := h', toks := tk' }) :
   wpAny (model PySem.Challenge.rw_ph0126_01.row.prog w) (ktrTop dp un gd cn cs L a ccd cl outer) (call (.ref 63) [.ref la, .int n t2]) Q E s := by
  rcases hB with ⟨rfl, rfl, rfl⟩ | ⟨rfl, hne, fs, t, hoc, hfs⟩
  · exact d2iE_ok (ocB := tabObj #[]) (fs := #[]) (tq := 0) F X T (news2 N (.head _) (.tail _ (.head _))) C1 hI hl hla hd hn hj fun h' tk' t oB' cB' ocB' a1 a2 a3 a4 => hret h' tk' t oB' cB' ocB' a1 a2 a3 a4 (fun z => absurd rfl z)
  · exact d2iH_ok F X T N C1 hne hoc hfs hI hl hla hd hn hj fun h' tk' t oB' cB' ocB' a1 a2 a3 a4 => hret h' tk' t oB' cB' ocB' a1 a2 a3 (.inl a4.1) (fun _ => a4)

/-- a turn's end, as the walker does not know it -/
noncomputable def RevPost (h₀ : Heap) (L : Addr) (s₁ : Shared) (I : Addr) (it : Obj) (J : (Str → Option Value) → List (Addr × Obj) → Prop) (Q : Flow → Shared → Prop) (f : Flow) (s₂ : Shared) : Prop := UnrPost h₀ L s₁ I it J Q f s₂
section
variable {prog : Program} {A : Around} {env : Env} {x : Str} {body : List Stmt} {Q : Flow → Shared → Prop}
theorem revLoop {ax I : Addr} {lo : Obj} {vs : List Value} {n : Nat} {m₀ : Str → Option Value} {news : List (Addr × Obj)} (J : Addr → List Value → (Str → Option Value) → List (Addr × Obj) → Prop)
    (hh : A.handled = none) (F : Fr h₀ env.locals s.heap m₀) (N : News h₀ env.locals s.heap ((I, revObj ax ((vs.length : Int) - 1)) :: news)) (hof : OffI I (revObj ax ((vs.length : Int) - 1)) news) (hm : (ax, lo) ∈ news) (hc : lo.cls = .type "list") (hd : lo.data = .seq vs.toArray n)
    (hJ : J I vs.reverse m₀ news) (hmem : ∀ r m n, J I r m n → (ax, lo) ∈ n)
    (turn : ∀ v r m₁ news₁, J I (v :: r) m₁ news₁ → ∀ (it : Obj) h tk, it.cls = .type "list_reverseiterator" → Fr h₀ env.locals h (fun y => if y = x then some v else m₁ y) → News h₀ env.locals h ((I, it) :: news₁) →
      wpAny (model prog w) A (execs body env) (RevPost h₀ env.locals { s with heap := h, toks := tk } I it (J I r) Q) E { s with heap := h, toks := tk })
    (done : ∀ m₁ news₁ h tk, J I [] m₁ news₁ → Fr h₀ env.locals h m₁ → News h₀ env.locals h news₁ → Q .next { s with heap := h, toks := tk }) :
    wpAny (model prog w) A (pyIter (.ref I)) (fun it s₂ => LoopAtV prog w A h₀ env x body Q E it s₂) E s := by
  refine iter_revUnr hh F N hof hm hc hd ?_
  have all : ∀ (r : List Value) (m₁ : Str → Option Value) (news₁ : List (Addr × Obj)), J I r m₁ news₁ → RevRest prog w A E h₀ env x body Q s I (ax, lo) r m₁ news₁ := by
    intro r
    induction r with
    | nil => exact fun m₁ news₁ j h tk F N => done m₁ news₁ h tk j F N
    | cons v r ih =>
      intro m₁ news₁ j it h tk hc F N
      refine wpAny_mono (turn v r m₁ news₁ j it h tk hc F N) (fun f s₂ p => ?_) fun _ _ e => e
      have up : UnrEnd h₀ env.locals { s with heap := h, toks := tk } I it (J I r) s₂ → UnrEnd h₀ env.locals { s with heap := h, toks := tk } I it (fun m' n' => (ax, lo) ∈ n' ∧ RevRest prog w A E h₀ env x body Q s I (ax, lo) r m' n') s₂ := by
        rintro ⟨h', tk', m', news', e, F', N', ho, j'⟩
        exact ⟨h', tk', m', news', e, F', N', ho, hmem _ _ _ j', ih _ _ j'⟩
      cases f with
      | ret v => exact p
      | brk => exact p
      | next => exact up p
      | cont => exact up p
  exact all _ _ _ hJ
end
theorem ints_rev : ∀ {vs : List Value} {ns : List Int}, IntsAre vs ns → IntsAre vs.reverse ns.reverse := by
  have app : ∀ {vs : List Value} {ns : List Int}, IntsAre vs ns → ∀ (n : Int) (t : Tok), IntsAre (vs ++ [.int n t]) (ns ++ [n]) := by
    intro vs ns h
    induction h with
    | nil => exact fun n t => .cons n t .nil
    | cons n t _ ih => exact fun n' t' => .cons n t (ih n' t')
  intro vs ns h
  induction h with
  | nil => exact .nil
  | cons n t _ ih => rw [List.reverse_cons, List.reverse_cons]; exact app ih n t
theorem ints_app {vs : List Value} {ns : List Int} (h : IntsAre vs ns) (n : Int) (t : Tok) : IntsAre (vs ++ [.int n t]) (ns ++ [n]) := by
  induction h with
  | nil => exact .cons n t .nil
  | cons n t _ ih => exact .cons n t ih
noncomputable def dz (n r d : Int) : Int := r * 2 ^ n.toNat + d
noncomputable def dLoop (b n : Int) : List Int → Int → List Int → Int × List Int
  | [], r, qs => (r, qs)
  | d :: rest, r, qs => dLoop b n rest ((dz n r d).fmod b) (qs ++ [(dz n r d).fdiv b])
noncomputable def dLoopOk (b n : Int) : List Int → Int → Bool
  | [], _ => true
  | d :: rest, r => decide (0 ≤ r ∧ r ≤ 12 ∧ 0 ≤ dz n r d ∧ dz n r d ≤ 1000) && dLoopOk b n rest ((dz n r d).fmod b)
theorem digs_len' : ∀ x : Nat, x < 145 → ∀ n : Nat, n < 4 → (digs (x : Int) ((n + 1 : Nat) : Int)).reverse.length ≤ 8 := by decide +kernel
theorem digs_len {x n : Int} (hx : 0 ≤ x ∧ x ≤ 144) (hn : 1 ≤ n ∧ n ≤ 4) : ([] : List Int).length + (digs x n).reverse.length ≤ 8 := by
  have e : n = ((n.toNat - 1 + 1 : Nat) : Int) := by omega
  have e2 : x = (x.toNat : Int) := by omega
  rw [e, e2, List.length_nil, Nat.zero_add]; exact digs_len' _ (by omega) _ (by omega)
theorem dLoopOkBy : ∀ y : Nat, y < 12 → ∀ x : Nat, x < 145 → dLoopOk ((y + 1 : Nat) : Int) (Builtin.Int.intBits ((y + 1 : Nat) : Int) : Int) (digs (x : Int) (Builtin.Int.intBits ((y + 1 : Nat) : Int) : Int)).reverse 0 = true
  | 0, _ => by decide +kernel
  | 1, _ => by decide +kernel
  | 2, _ => by decide +kernel
  | 3, _ => by decide +kernel
  | 4, _ => by decide +kernel
  | 5, _ => by decide +kernel
  | 6, _ => by decide +kernel
  | 7, _ => by decide +kernel
  | 8, _ => by decide +kernel
  | 9, _ => by decide +kernel
  | 10, _ => by decide +kernel
  | 11, _ => by decide +kernel
  | k + 12, h => absurd h (Nat.not_lt.mpr (Nat.le_add_left 12 k))
theorem dLoopOk' : ∀ x : Nat, x < 145 → ∀ y : Nat, y < 12 → dLoopOk ((y + 1 : Nat) : Int) (Builtin.Int.intBits ((y + 1 : Nat) : Int) : Int) (digs (x : Int) (Builtin.Int.intBits ((y + 1 : Nat) : Int) : Int)).reverse 0 = true := fun x hx y hy => dLoopOkBy y hy x hx
theorem dLoopOk_of {x y : Int} (hx : 0 ≤ x ∧ x ≤ 144) (hy : 1 ≤ y ∧ y ≤ 12) : dLoopOk y (Builtin.Int.intBits y : Int) (digs x (Builtin.Int.intBits y : Int)).reverse 0 = true := by
  have e : y = ((y.toNat - 1 + 1 : Nat) : Int) := by omega
  have e2 : x = (x.toNat : Int) := by omega
  rw [e, e2]; exact dLoopOk' _ (by omega) _ (by omega)
/-- what _divmod_pos reckons -/
noncomputable def dmRes (x y : Int) : Int × List Int := dLoop y (Builtin.Int.intBits y : Int) (digs x (Builtin.Int.intBits y : Int)).reverse 0 []
theorem dmRes_okBy : ∀ y : Nat, y < 12 → ∀ x : Nat, x < 145 → ((dmRes (x : Int) ((y + 1 : Nat) : Int)).2.reverse.length ≤ 8 ∧ (0 < (dmRes (x : Int) ((y + 1 : Nat) : Int)).2.reverse.length → joinOk (Builtin.Int.intBits ((y + 1 : Nat) : Int) : Int) (dmRes (x : Int) ((y + 1 : Nat) : Int)).2.reverse 8 0 ((dmRes (x : Int) ((y + 1 : Nat) : Int)).2.reverse.length : Int) = true) ∧
   joinAll (Builtin.Int.intBits ((y + 1 : Nat) : Int) : Int) (dmRes (x : Int) ((y + 1 : Nat) : Int)).2.reverse = (x : Int).fdiv ((y + 1 : Nat) : Int) ∧ (dmRes (x : Int) ((y + 1 : Nat) : Int)).1 = (x : Int).fmod ((y + 1 : Nat) : Int))
  | 0, _ => by decide +kernel
  | 1, _ => by decide +kernel
  | 2, _ => by decide +kernel
  | 3, _ => by decide +kernel
  | 4, _ => by decide +kernel
  | 5, _ => by decide +kernel
  | 6, _ => by decide +kernel
  | 7, _ => by decide +kernel
  | 8, _ => by decide +kernel
  | 9, _ => by decide +kernel
  | 10, _ => by decide +kernel
  | 11, _ => by decide +kernel
  | k + 12, h => absurd h (Nat.not_lt.mpr (Nat.le_add_left 12 k))
theorem dmRes_ok' : ∀ x : Nat, x < 145 → ∀ y : Nat, y < 12 → ((dmRes (x : Int) ((y + 1 : Nat) : Int)).2.reverse.length ≤ 8 ∧ (0 < (dmRes (x : Int) ((y + 1 : Nat) : Int)).2.reverse.length → joinOk (Builtin.Int.intBits ((y + 1 : Nat) : Int) : Int) (dmRes (x : Int) ((y + 1 : Nat) : Int)).2.reverse 8 0 ((dmRes (x : Int) ((y + 1 : Nat) : Int)).2.reverse.length : Int) = true) ∧
   joinAll (Builtin.Int.intBits ((y + 1 : Nat) : Int) : Int) (dmRes (x : Int) ((y + 1 : Nat) : Int)).2.reverse = (x : Int).fdiv ((y + 1 : Nat) : Int) ∧ (dmRes (x : Int) ((y + 1 : Nat) : Int)).1 = (x : Int).fmod ((y + 1 : Nat) : Int)) := fun x hx y hy => dmRes_okBy y hy x hx
theorem dmRes_ok {x y : Int} (hx : 0 ≤ x ∧ x ≤ 144) (hy : 1 ≤ y ∧ y ≤ 12) : ((dmRes x y).2.reverse.length ≤ 8 ∧ (0 < (dmRes x y).2.reverse.length → joinOk (Builtin.Int.intBits y : Int) (dmRes x y).2.reverse 8 0 ((dmRes x y).2.reverse.length : Int) = true) ∧
   joinAll (Builtin.Int.intBits y : Int) (dmRes x y).2.reverse = x.fdiv y ∧ (dmRes x y).1 = x.fmod y) := by
  have e : y = ((y.toNat - 1 + 1 : Nat) : Int) := by omega
  have e2 : x = (x.toNat : Int) := by omega
  rw [e, e2]; exact dmRes_ok' _ (by omega) _ (by omega)
theorem noneUp {h h1 g : Heap} {L' : Addr} {news led1 : List (Addr × Obj)} {m1 : Str → Option Value} {c : Addr} (k : Keeps (news.map (·.1)) h g) (F1 : Fr g L' h1 m1) (N1 : News g L' h1 led1) (hs : ∀ p ∈ news, ∃ o, (p.1, o) ∈ led1) (hc : h1.get? c = none) : h.get? c = none := by
  cases q : h.get? c with
  | none => rfl
  | some o =>
    by_cases hb : c ∈ news.map (·.1)
    · obtain ⟨y, hy, rfl⟩ := List.mem_map.mp hb
      obtain ⟨o', ho'⟩ := hs y hy
      have := (N1 _ ho').1
      rw [hc] at this; cases this
    · have := F1.keep _ _ (k c o q hb)
      rw [hc] at this; cases this
/-- what holds of _divmod_pos ahead of each turn -/
noncomputable def dJ (b n : Int) (I v cA cB : Addr) (tail : List (Addr × Obj)) (res : Int × List Int) (r : List Value) (m₁ : Str → Option Value) (news₁ : List (Addr × Obj)) : Prop :=
  ∃ (ql : Addr) (rs : List Int) (rv : Int) (tr tb tn : Tok) (qv : List Value) (e1 : Nat) (qs : List Int),
    IntsAre r rs ∧ m₁ "r" = some (.int rv tr) ∧ m₁ "b" = some (.int b tb) ∧ m₁ "n" = some (.int n tn) ∧ m₁ "q_digits" = some (.ref ql) ∧
    news₁ = (ql, PySem.W.listOf qv.toArray e1) :: tail ∧ IntsAre qv qs ∧ qs.length + rs.length ≤ 8 ∧ dLoopOk b n rs rv = true ∧ dLoop b n rs rv qs = res ∧
    (@LT.lt Nat _ v ql ∧ @LT.lt Nat _ 51 ql ∧ @LT.lt Nat _ cA ql ∧ @LT.lt Nat _ 58 ql ∧ @LT.lt Nat _ cB ql ∧ @LT.lt Nat _ ql I)
section
theorem linesMn14x2 : True := by
  k_with "call ref" => (refine ofMark ?_)
  trivial
local macro_rules | `(tactic| walk_at "pyIter ref") => `(tactic| refine ofMark ?_)
theorem linesMn14x3 : True := by
  k_with "eval Name" => ((k_here; k_dflt (refine' ld ?k1z73 ?k2z73 ?_; (case k1z73 => k_asm); (case k2z73 => first | exact rfl | assumption | fail "no"); k_whole)))
  k_with "binaryOp LShift int int" => ((k_here; (refine lshift_int_small ?kb1z74 ?kb2z74 ?kb3z74 ?_); (case kb1z74 => assumption); (case kb2z74 => assumption); (case kb3z74 => assumption); (try dsimp only)))
  trivial
theorem news3 {h : Heap} {led : List (Addr × Obj)} {p q r : Addr × Obj} (N : News h₀ L h led) (h1 : p ∈ led) (h2 : q ∈ led) (h3 : r ∈ led) : News h₀ L h [p, q, r] := fun x hx => by
  simp only [List.mem_cons, List.not_mem_nil, or_false] at hx
  rcases hx with rfl | rfl | rfl
  · exact N _ h1
  · exact N _ h2
  · exact N _ h3
theorem dpos_ok {x y : Int} {t1 t2 : Tok} {oA : Obj} {cA : Addr} {ocA : Obj} {oB : Obj} {cB : Addr} {ocB : Obj}
   (F : Fr h₀ L s.heap m) (X : (Mine.hd.heap_1 w.params).In h₀) (T : Top pg lz mean mg mb h₀)
   (N : News h₀ L s.heap [(51, oA), (cA, ocA), (58, oB), (cB, ocB)]) (hA : TabS 51 55 4 qA oA cA ocA) (hB : TabS 58 70 4 qB oB cB ocB) (C1 : CodeHd h₀ 55 51) (C2 : CodeHd h₀ 62 58)
   (hd : dp + 14 < recursionLimit) (hx : 0 ≤ x ∧ x ≤ 144) (hy : 1 ≤ y ∧ y ≤ 12) (nAB : Shut (cA ≠ 58 ∧ cB ≠ 51))
   (hret : ∀ (v : Addr) (h' : Heap) (tk' : Nat) (u1 u2 : Tok) (oA' : Obj) (cA' : Addr) (ocA' : Obj) (oB' : Obj) (cB' : Addr) (ocB' : Obj), Keeps [51, 58] s.heap h' → s.heap.get? v = none → h'.get? v = some (tupO [.int (x.fdiv y) u1, .int (x.fmod y) u2]) →
      News h₀ L h' [(51, oA'), (cA', ocA'), (58, oB'), (cB', ocB')] → TabS 51 55 4 qA oA' cA' ocA' → TabS 58 70 4 qB oB' cB' ocB' → (cA' = cA ∨ s.heap.get? cA' = none) → (cB' = cB ∨ s.heap.get? cB' = none) → Shut (cA' ≠ 58 ∧ cB' ≠ 51) → (cA ≠ 51 → cA' = cA ∧ ocA' = ocA) → (cB ≠ 58 → cB' = cB ∧ ocB' = ocB) → Q (.ref v) { s with heap := h', toks := tk' }) :
   wpAny (model PySem.Challenge.rw_ph0126_01.row.prog w) (ktrTop dp un gd cn cs L a ccd cl outer) (call (.ref 70) [.int x t1, .int y t2]) Q E s := by
  revert X; k_fill; intro X
  refine wpAny_call ?_
  k_dflt (walk_at "mine enter")
  intro g' L' h' K' hL' F' N' X' T' l'
  have C1' := C1.keeps (staysOf F N K')
  have C2' := C2.keeps (staysOf F N K')
  k_lt l'
  have hn : 1 ≤ (Builtin.Int.intBits y : Int) ∧ (Builtin.Int.intBits y : Int) ≤ 4 := by
    have : ∀ k : Nat, k < 12 → 1 ≤ (Builtin.Int.intBits ((k + 1 : Nat) : Int) : Int) ∧ (Builtin.Int.intBits ((k + 1 : Nat) : Int) : Int) ≤ 4 := by decide +kernel
    have e : y = ((y.toNat - 1 + 1 : Nat) : Int) := by omega
    rw [e]; exact this _ (by omega)
  (try dsimp only); (try k_fold)
  k_steps
  refine mark ?_
  rename News _ _ _ _ => N1; rename Fr _ _ _ _ => F1
  refine i2d_ok F1 X' T' (news2 N1 (.head _) (.tail _ (.head _))) hA C1' (by ktr_room) hx hn ?_
  intro v h2 tk2 vs e oA' cA' ocA' K2 n2 g2 i2 N2 hA' fA gA
  have fA' : cA' = cA ∨ s.heap.get? cA' = none := fA.imp id fun z => noneUp K' F1 N1 (fun p hp => ⟨_, hp⟩) z
  have nA : cA' ≠ 58 := by
    rcases fA with rfl | z
    · exact nAB.out.1
    · rintro rfl
      have := (N1 _ (.tail _ (.tail _ (.head _)))).1
      rw [z] at this; cases this
  replace nA := Shut.mk nA
  have F2 := frAfter F1 N1 (ms := [51]) (by intro b hb; rcases List.mem_singleton.mp hb with rfl; exact ⟨_, .head _⟩) K2
  have N3 : News g' L' h2 [(v, PySem.W.listOf vs.toArray e), (51, oA'), (cA', ocA'), (58, oB), (cB, ocB)] := by
    intro p hp
    simp only [List.mem_cons, List.not_mem_nil, or_false] at hp
    rcases hp with rfl | rfl | rfl | rfl | rfl
    · exact newsIn F1 n2 g2 (led := []) News.nil _ (.head _)
    · exact N2 _ (.head _)
    · exact N2 _ (.tail _ (.head _))
    · exact ⟨K2 _ _ (N1 _ (.tail _ (.tail _ (.head _)))).1 (by simp), (N1 _ (.tail _ (.tail _ (.head _)))).2⟩
    · exact ⟨K2 _ _ (N1 _ (.tail _ (.tail _ (.tail _ (.head _))))).1 (by simpa using nAB.out.2), (N1 _ (.tail _ (.tail _ (.tail _ (.head _))))).2⟩
  clear F1 N1 N2
  dsimp only
  k_steps
  refine mark ?_
  rename News _ _ _ _ => N1; rename Fr _ _ _ _ => F1
  refine' revLoop (fun I => dJ y (Builtin.Int.intBits y : Int) I v cA' cB [(v, PySem.W.listOf vs.toArray e), (51, oA'), (cA', ocA'), (58, oB), (cB, ocB)] (dLoop y (Builtin.Int.intBits y : Int) (digs x (Builtin.Int.intBits y : Int)).reverse 0 [])) rfl F1 N1 ?hof ?hm ?hc ?hd ?hJ ?hmem ?turn ?done
  case hm => exact .tail _ (.head _)
  case hc => rfl
  case hd => rfl
  case hof => exact ⟨.inl (by k_ne), .inl (by k_ne), .inl (by k_ne), .inl (by k_ne), .inl (by k_ne), .inl (by k_ne), trivial⟩
  case hJ => refine' ⟨_, _, 0, _, _, _, [], _, [], ints_rev i2, rfl, rfl, rfl, rfl, rfl, .nil, ?_, ?_, rfl, ?_⟩; exact digs_len hx hn; exact dLoopOk_of hx hy; omega
  case hmem => rintro r m₁ n₁ ⟨ql, rs, rv, tr, tb, tn, qv, e1, qs, _, _, _, _, _, rfl, _⟩; simp
  case turn =>
    rintro v1 r m₁ news₁ ⟨ql, rs, rv, tr, tb, tn, qv, e1, qs, ir, m1, m2, m3, m4, rfl, iq, hl, hok, hres, hlt⟩ it h3 tk3 hc3 F3 N3
    replace F3 : Fr g' L' h3 _ := F3
    replace N3 : News g' L' h3 _ := N3
    cases ir with
    | cons d td ir =>
      rename_i rs r
      simp only [dLoopOk, Bool.and_eq_true, decide_eq_true_eq] at hok
      obtain ⟨hz, hok⟩ := hok
      have hS1 : (0 : Int) ≤ (Builtin.Int.intBits y : Int) := by omega
      have hS2 : (Builtin.Int.intBits y : Int) ≤ 1000000 := by omega
      have hS3 : rv.natAbs < 2 ^ 64 := by omega
      k_steps
      refine mark ?_
      rename News _ _ _ _ => N4; rename Fr _ _ _ _ => F4
      refine div2_ok F4 X' T' (by ktr_room) hz.2.2 hy hn ?_
      intro v5 h5 tk5 u1 u2 K5 n5 g5
      have l5 := allNe_of N4 n5
      have F5 := frAfter0 F4 K5
      have N5 := newsIn F4 n5 g5 (newsAfter0 N4 K5)
      clear F4 N4
      dsimp only
      k_steps
      rename News _ _ _ _ => N'; rename Fr _ _ _ _ => F'
      have hpush : ∀ z : Value, qv.toArray.push z = (qv ++ [z]).toArray := fun z => by simp
      rw [hpush] at N'
      refine ⟨_, _, _, _, rfl, F', fun p hp => N' p (.tail _ hp), ?off, _, _, _, _, _, _, _, _, _, ir, rfl, m2, m3, m4, rfl, ints_app iq _ _, ?len, hok, hres, hlt⟩
      case off => k_all
      case len => simp only [List.length_append, List.length_cons, List.length_nil] at hl ⊢; omega
  case done =>
    rintro m₁ news₁ h3 tk3 ⟨ql, rs, rv, tr, tb, tn, qv, e1, qs, ir, m1, m2, m3, m4, rfl, iq, hl, hok, hres, hlt⟩ F3 N3
    replace F3 : Fr g' L' h3 _ := F3
    replace N3 : News g' L' h3 _ := N3
    cases ir
    dsimp only
    k_steps
    dsimp only
    rename News _ _ _ _ => N4; rename Fr _ _ _ _ => F4
    have hz : qv.toArray.toList.length ≤ sizeLine := by
      have := iq.length
      rw [sizeLine_eq, List.toList_toArray, this]
      simp only [List.length_nil] at hl
      omega
    refine' kl_reverse (l := qv.reverse) F4 N4 (by simp) ?U hz ?_
    case U => k_upd
    have irev := ints_rev iq
    clear F4 N4
    intros
    k_steps
    refine mark ?_
    rename News _ _ _ _ => N4; rename Fr _ _ _ _ => F4
    have hdm := dmRes_ok hx hy
    have hq : dmRes x y = (rv, qs) := hres.symm
    rw [hq] at hdm
    refine d2i_ok F4 X' T' (news3 N4 (.head _) (.tail _ (.tail _ (.tail _ (.tail _ (.head _))))) (.tail _ (.tail _ (.tail _ (.tail _ (.tail _ (.head _))))))) hB C2' irev hdm.1 hlt.2.2.2.1 (by ktr_room) hn hdm.2.1 ?_
    intro h6 tk6 t6 oB' cB' ocB' K6 N6 hB' fB gB
    have fB' : cB' = cB ∨ s.heap.get? cB' = none := fB.imp id fun z => noneUp K' F4 N4 (by
      intro p hp
      simp only [List.mem_cons, List.not_mem_nil, or_false] at hp
      rcases hp with rfl | rfl | rfl | rfl
      · exact ⟨_, .tail _ (.tail _ (.head _))⟩
      · by_cases z : cA = 51
        · subst z; exact ⟨_, .tail _ (.tail _ (.head _))⟩
        · obtain ⟨z1, z2⟩ := gA z; subst z1; exact ⟨_, .tail _ (.tail _ (.tail _ (.head _)))⟩
      · exact ⟨_, .tail _ (.tail _ (.tail _ (.tail _ (.head _))))⟩
      · exact ⟨_, .tail _ (.tail _ (.tail _ (.tail _ (.tail _ (.head _)))))⟩) z
    have nB : cB' ≠ 51 := by
      rcases fB with rfl | z
      · exact nAB.out.2
      · rintro rfl
        have := (N4 _ (.tail _ (.tail _ (.head _)))).1
        rw [z] at this; cases this
    have F6 := frAfter F4 N4 (ms := [58]) (by intro b hb; rcases List.mem_singleton.mp hb with rfl; exact ⟨_, .tail _ (.tail _ (.tail _ (.tail _ (.head _))))⟩) K6
    have N7 : News g' L' h6 [(51, oA'), (cA', ocA'), (58, oB'), (cB', ocB')] := by
      intro p hp
      simp only [List.mem_cons, List.not_mem_nil, or_false] at hp
      rcases hp with rfl | rfl | rfl | rfl
      · exact ⟨K6 _ _ (N4 _ (.tail _ (.tail _ (.head _)))).1 (by simp), (N4 _ (.tail _ (.tail _ (.head _)))).2⟩
      · exact ⟨K6 _ _ (N4 _ (.tail _ (.tail _ (.tail _ (.head _))))).1 (by simpa using nA.out), (N4 _ (.tail _ (.tail _ (.tail _ (.head _))))).2⟩
      · exact N6 _ (.head _)
      · exact N6 _ (.tail _ (.head _))
    clear F4 N4 N6
    dsimp only
    rw [hdm.2.2.1]
    k_steps
    rename News _ _ _ _ => N'; rename Fr _ _ _ _ => F'
    have P := fun p hp => newsUp F N K' N' (p := p) hp
    have hrv : rv = x.fmod y := hdm.2.2.2
    subst hrv
    refine hret _ _ _ _ _ oA' cA' ocA' oB' cB' ocB' (keepsOf K' N F' N' ?ks) (freshOf K' N' (.head _) ?fr) (N' _ (.head _)).1 (fun p hp => P p (.tail _ hp)) hA' hB' fA' fB' (Shut.mk ⟨nA.out, nB⟩) gA gB
    case fr =>
      intro p hp
      simp only [List.mem_cons, List.not_mem_nil, or_false] at hp
      rcases hp with rfl | rfl | rfl | rfl
      · k_ne
      · by_cases z : cA = 51
        · subst z; k_ne
        · obtain ⟨z1, z2⟩ := gA z; subst z1; k_ne
      · k_ne
      · by_cases z : cB = 58
        · subst z; k_ne
        · obtain ⟨z1, z2⟩ := gB z; subst z1; k_ne
    case ks =>
      intro p hp
      simp only [List.mem_cons, List.not_mem_nil, or_false] at hp
      rcases hp with rfl | rfl | rfl | rfl
      · exact .inr (by simp)
      · by_cases z : cA = 51
        · exact .inr (by simp [z])
        · obtain ⟨z1, z2⟩ := gA z; subst z1 z2; exact .inl (by simp)
      · exact .inr (by simp)
      · by_cases z : cB = 58
        · exact .inr (by simp [z])
        · obtain ⟨z1, z2⟩ := gB z; subst z1 z2; exact .inl (by simp)
end
end
/-! text Mn15 -/
section
theorem linesMn15x1 : True := by
  k_with_none
  k_with "mine enter" => ((refine' enter ?k2z75 ?k3z75 ?k4z75 ?k5z75 ?k6z75 ?k7z75 ?k8z75 ?k9z75 ?kBz75 ?_ ?c2z75 ?c3z75 ?c4z75 ?c5z75; (case k2z75 => k_asm); (case k3z75 => k_asm); (case k4z75 => k_asm); (case k5z75 => k_asm); (case k6z75 => k_is); (case k7z75 => k_is); (case k8z75 => ktr_room); (case k9z75 => exact BindsTo.of_eq rfl); (case c5z75 => decide); (case kBz75 => exact locs rfl); (case c2z75 => exact rfl); (case c3z75 => exact rfl); (case c4z75 => exact rfl); k_whole))
  k_with "mine keeps" => (((with_reducible rename Keeps _ _ _ => kK); (have F' := frAfter0 (by k_asm) kK); (have N' := newsAfter0 (by k_asm) kK); clear kK; (try k_sweep)))
  k_with "mine made" => (((with_reducible rename Keeps _ _ _ => kK); rename (Heap.get? _ _ = none) => kn; rename (Heap.get? _ _ = some _) => ks; (have l1 := allNe_of (by k_asm) kn); (have N' := newsIn (by k_asm) kn ks (newsAfter0 (by k_asm) kK)); (have F' := frAfter0 (by k_asm) kK); clear kK kn ks; (try k_sweep)))
  trivial
variable {pg : Program} {lz : List Str} {w : World} {mean : ExcName → Option Value} {mg mb : Str → Option Value}
   {dp un : Nat} {gd : Option (List Code)} {cn : Str} {cs : Scope} {a : Addr} {ccd : Value} {cl : List (Str × Addr)} {outer : List Env} {h₀ : Heap} {L : Addr} {m : Str → Option Value} {s : Shared} {Q E : Value → Shared → Prop}
section
theorem linesMn15x2 : True := by
  k_with "call ref" => (refine ofMark ?_)
  trivial
theorem idm_ok {x y : Int} {t1 t2 : Tok} {oA : Obj} {cA : Addr} {ocA : Obj} {oB : Obj} {cB : Addr} {ocB : Obj}
   (F : Fr h₀ L s.heap m) (X : (Mine.hd.heap_1 w.params).In h₀) (T : Top pg lz mean mg mb h₀)
   (N : News h₀ L s.heap [(51, oA), (cA, ocA), (58, oB), (cB, ocB)]) (hA : TabS 51 55 4 qA oA cA ocA) (hB : TabS 58 70 4 qB oB cB ocB) (C1 : CodeHd h₀ 55 51) (C2 : CodeHd h₀ 62 58)
   (hd : dp + 16 < recursionLimit) (hx : 0 ≤ x ∧ x ≤ 144) (hy : 1 ≤ y ∧ y ≤ 12) (nAB : Shut (cA ≠ 58 ∧ cB ≠ 51))
   (hret : ∀ (v : Addr) (h' : Heap) (tk' : Nat) (u1 u2 : Tok) (oA' : Obj) (cA' : Addr) (ocA' : Obj) (oB' : Obj) (cB' : Addr) (ocB' : Obj), Keeps [51, 58] s.heap h' → s.heap.get? v = none → h'.get? v = some (tupO [.int (x.fdiv y) u1, .int (x.fmod y) u2]) →
      News h₀ L h' [(51, oA'), (cA', ocA'), (58, oB'), (cB', ocB')] → TabS 51 55 4 qA oA' cA' ocA' → TabS 58 70 4 qB oB' cB' ocB' → (cA' = cA ∨ s.heap.get? cA' = none) → (cB' = cB ∨ s.heap.get? cB' = none) → Shut (cA' ≠ 58 ∧ cB' ≠ 51) → (cA ≠ 51 → cA' = cA ∧ ocA' = ocA) → (cB ≠ 58 → cB' = cB ∧ ocB' = ocB) → Q (.ref v) { s with heap := h', toks := tk' }) :
   wpAny (model PySem.Challenge.rw_ph0126_01.row.prog w) (ktrTop dp un gd cn cs L a ccd cl outer) (call (.ref 77) [.int x t1, .int y t2]) Q E s := by
  revert X; k_fill; intro X
  refine wpAny_call ?_
  k_dflt (walk_at "mine enter")
  intro g' L' h' K' hL' F' N' X' T' l'
  have C1' := C1.keeps (staysOf F N K')
  have C2' := C2.keeps (staysOf F N K')
  k_lt l'
  (try dsimp only); (try k_fold)
  k_steps
  · exfalso; omega
  · refine mark ?_
    rename News _ _ _ _ => N1; rename Fr _ _ _ _ => F1
    refine dpos_ok F1 X' T' N1 hA hB C1' C2' (by ktr_room) hx hy nAB ?_
    intro v h2 tk2 u1 u2 oA' cA' ocA' oB' cB' ocB' K2 n2 g2 N2 hA' hB' fA fB nAB' gA gB
    exact hret v h2 tk2 u1 u2 oA' cA' ocA' oB' cB' ocB' ((keepsOf K' N F1 N1 (fun p hp => .inl hp)).trans K2) (noneUp K' F1 N1 (fun p hp => ⟨_, hp⟩) n2) g2 (fun p hp => newsUp F N K' N2 hp) hA' hB'
      (fA.imp id fun z => noneUp K' F1 N1 (fun p hp => ⟨_, hp⟩) z) (fB.imp id fun z => noneUp K' F1 N1 (fun p hp => ⟨_, hp⟩) z) nAB' gA gB
end
end
/-! text Mn16 -/
section
theorem linesMn16x1 : True := by
  k_with_none
  k_with "mine enter" => ((refine' enter ?k2z79 ?k3z79 ?k4z79 ?k5z79 ?k6z79 ?k7z79 ?k8z79 ?k9z79 ?kBz79 ?_ ?c2z79 ?c3z79 ?c4z79 ?c5z79; (case k2z79 => k_asm); (case k3z79 => k_asm); (case k4z79 => k_asm); (case k5z79 => k_asm); (case k6z79 => k_is); (case k7z79 => k_is); (case k8z79 => ktr_room); (case k9z79 => exact BindsTo.of_eq rfl); (case c5z79 => decide); (case kBz79 => exact locs rfl); (case c2z79 => exact rfl); (case c3z79 => exact rfl); (case c4z79 => exact rfl); k_whole))
  k_with "mine keeps" => (((with_reducible rename Keeps _ _ _ => kK); (have F' := frAfter0 (by k_asm) kK); (have N' := newsAfter0 (by k_asm) kK); clear kK; (try k_sweep)))
  k_with "mine made" => (((with_reducible rename Keeps _ _ _ => kK); rename (Heap.get? _ _ = none) => kn; rename (Heap.get? _ _ = some _) => ks; (have l1 := allNe_of (by k_asm) kn); (have N' := newsIn (by k_asm) kn ks (newsAfter0 (by k_asm) kK)); (have F' := frAfter0 (by k_asm) kK); clear kK kn ks; (try k_sweep)))
  trivial
variable {pg : Program} {lz : List Str} {w : World} {mean : ExcName → Option Value} {mg mb : Str → Option Value}
   {dp un : Nat} {gd : Option (List Code)} {cn : Str} {cs : Scope} {a : Addr} {ccd : Value} {cl : List (Str × Addr)} {outer : List Env} {h₀ : Heap} {L : Addr} {m : Str → Option Value} {s : Shared} {Q E : Value → Shared → Prop}
/-- Euclid's run, as the text makes it -/
noncomputable def eucF : Nat → Int → Int → Str → Bool → Option (Str × Int)
  | 0, _, _, _, _ => none
  | k + 1, u, d, wd, b => if d = 0 then some (wd, u) else eucF k d (u.fmod d) (wd ++ Txt.mul (if b then Str.ofString "r" else Str.ofString "l") (u.fdiv d)) (!b)
noncomputable def eucJ (cA₀ : Addr) (ocA₀ : Obj) (cB₀ : Addr) (ocB₀ : Obj) (res : Str × Int) (n : Nat) (m₁ : Str → Option Value) (news₁ : List (Addr × Obj)) : Prop :=
  ∃ (u d : Int) (wd : Str) (b : Bool) (k : Nat) (t1 t2 t3 t4 : Tok) (oA : Obj) (cA : Addr) (ocA : Obj) (oB : Obj) (cB : Addr) (ocB : Obj),
    m₁ "up" = some (.int u t1) ∧ m₁ "down" = some (.int d t2) ∧ m₁ "word" = some (.str wd t3) ∧ m₁ "letter" = some (.str (if b then Str.ofString "r" else Str.ofString "l") t4) ∧
    news₁ = [(51, oA), (cA, ocA), (58, oB), (cB, ocB)] ∧ TabS 51 55 4 qA oA cA ocA ∧ TabS 58 70 4 qB oB cB ocB ∧ Shut (cA ≠ 58 ∧ cB ≠ 51) ∧
    (0 ≤ u ∧ u ≤ 12) ∧ (0 ≤ d ∧ d ≤ 12) ∧ wd.length + 12 * d.toNat ≤ 1000 ∧ d.toNat = n ∧ eucF k u d wd b = some res ∧
    (cA₀ ≠ 51 → cA = cA₀ ∧ ocA = ocA₀) ∧ (cB₀ ≠ 58 → cB = cB₀ ∧ ocB = ocB₀) ∧
    Shut (cA = cA₀ ∨ (cA ≠ 51 ∧ cA ≠ 58 ∧ cA ≠ cA₀ ∧ cA ≠ cB₀)) ∧ Shut (cB = cB₀ ∨ (cB ≠ 51 ∧ cB ≠ 58 ∧ cB ≠ cA₀ ∧ cB ≠ cB₀))
section
theorem linesMn16x2 : True := by
  k_with "call ref" => (refine ofMark ?_)
  k_with "exec While Name cons nil" => (refine ofMark ?_)
  k_with "loadName" => ((k_here; k_dflt (refine' ldn ?k1z84 ?k2z84 ?_; (case k1z84 => k_asm); (case k2z84 => first | exact rfl | assumption | fail "no"); k_whole)))
  k_with "eval Name" => ((k_here; k_dflt (refine' ld ?k1z85 ?k2z85 ?_; (case k1z85 => k_asm); (case k2z85 => first | exact rfl | assumption | fail "no"); k_whole)))
  trivial
theorem euc_ok {x y : Int} {t1 t2 : Tok} {oA : Obj} {cA : Addr} {ocA : Obj} {oB : Obj} {cB : Addr} {ocB : Obj}
   (F : Fr h₀ L s.heap m) (X : (Mine.hd.heap_1 w.params).In h₀) (T : Top pg lz mean mg mb h₀)
   (N : News h₀ L s.heap [(51, oA), (cA, ocA), (58, oB), (cB, ocB)]) (hA : TabS 51 55 4 qA oA cA ocA) (hB : TabS 58 70 4 qB oB cB ocB) (C1 : CodeHd h₀ 55 51) (C2 : CodeHd h₀ 62 58)
   (hd : dp + 20 < recursionLimit) (hx : 0 ≤ x ∧ x ≤ 12) (hy : 1 ≤ y ∧ y ≤ 12) (nAB : Shut (cA ≠ 58 ∧ cB ≠ 51))
   {res : Str × Int} {k : Nat} (hres : eucF k x y "" true = some res)
   (hret : ∀ (v : Addr) (h' : Heap) (tk' : Nat) (u1 u2 : Tok) (oA' : Obj) (cA' : Addr) (ocA' : Obj) (oB' : Obj) (cB' : Addr) (ocB' : Obj), Keeps [51, 58] s.heap h' → s.heap.get? v = none → h'.get? v = some (tupO [.str (Txt.slice res.1 none (some (-1))) u1, .int res.2 u2]) →
      News h₀ L h' [(51, oA'), (cA', ocA'), (58, oB'), (cB', ocB')] → TabS 51 55 4 qA oA' cA' ocA' → TabS 58 70 4 qB oB' cB' ocB' → (cA' = cA ∨ s.heap.get? cA' = none) → (cB' = cB ∨ s.heap.get? cB' = none) → Shut (cA' ≠ 58 ∧ cB' ≠ 51) → (cA ≠ 51 → cA' = cA ∧ ocA' = ocA) → (cB ≠ 58 → cB' = cB ∧ ocB' = ocB) → Q (.ref v) { s with heap := h', toks := tk' }) :
   wpAny (model PySem.Challenge.rw_ph0126_01.row.prog w) (ktrTop dp un gd cn cs L a ccd cl outer) (call (.ref 112) [.int x t1, .int y t2]) Q E s := by
  revert X; k_fill; intro X
  refine wpAny_call ?_
  k_dflt (walk_at "mine enter")
  intro g' L' h' K' hL' F' N' X' T' l'
  have C1' := C1.keeps (staysOf F N K')
  have C2' := C2.keeps (staysOf F N K')
  k_lt l'
  (try dsimp only); (try k_fold)
  k_steps
  refine mark ?_
  refine While_inv2 (eucJ cA ocA cB ocB res) (n₀ := y.toNat) (by k_asm) (by k_asm) ?_ ?_ ?_
  · have h0 : (Str.ofString "").length = 0 := by decide +kernel
    exact ⟨x, y, _, true, k, _, _, _, _, oA, cA, ocA, oB, cB, ocB, rfl, rfl, rfl, rfl, rfl, hA, hB, nAB, hx, ⟨by omega, by omega⟩, (by rw [h0]; omega), rfl, hres, fun _ => ⟨rfl, rfl⟩, fun _ => ⟨rfl, rfl⟩, .inl rfl, .inl rfl⟩
  · rintro n m₁ news₁ h₁ tk₁ F₁ N₁ ⟨u, d, wd, b, k₁, t1, t2, t3, t4, oA₁, cA₁, ocA₁, oB₁, cB₁, ocB₁, m1, m2, m3, m4, rfl, hA₁, hB₁, nAB₁, hu, hd', hw, hn, hs, iA, iB, jA, jB⟩
    have hw1 : wd.length ≤ 1000 := by omega
    k_steps
    · refine mark ?_
      rename (d ≠ 0) => hd0
      rename News _ _ _ _ => N1; rename Fr _ _ _ _ => F1
      refine idm_ok F1 X' T' N1 hA₁ hB₁ C1' C2' (by ktr_room) (by omega) (by omega) nAB₁ ?_
      intro v h2 tk2 u1 u2 oA' cA' ocA' oB' cB' ocB' K2 n2 g2 N2 hA' hB' fA fB nAB' gA gB
      have hq : 0 ≤ u.fdiv d ∧ u.fdiv d ≤ 12 := by
        rw [Int.fdiv_eq_ediv_of_nonneg _ hd'.1]
        exact ⟨Int.ediv_nonneg hu.1 hd'.1, Int.le_trans (Int.ediv_le_self _ hu.1) hu.2⟩
      have hr : 0 ≤ u.fmod d ∧ u.fmod d < d := by
        rw [Int.fmod_eq_emod_of_nonneg _ hd'.1]
        exact ⟨Int.emod_nonneg _ hd0, Int.emod_lt_of_pos _ (by omega)⟩
      have F2 := frAfter F1 N1 (ms := [51, 58]) (by
        intro b hb
        simp only [List.mem_cons, List.not_mem_nil, or_false] at hb
        rcases hb with rfl | rfl
        · exact ⟨_, .head _⟩
        · exact ⟨_, .tail _ (.tail _ (.head _))⟩) K2
      have N3 := newsIn F1 n2 g2 N2
      have iA' : cA ≠ 51 → cA' = cA ∧ ocA' = ocA := fun z => by
        obtain ⟨a1, a2⟩ := iA z
        rw [← a1, ← a2]
        exact gA (by rw [a1]; exact z)
      have iB' : cB ≠ 58 → cB' = cB ∧ ocB' = ocB := fun z => by
        obtain ⟨a1, a2⟩ := iB z
        rw [← a1, ← a2]
        exact gB (by rw [a1]; exact z)
      have pres : ∀ c : Addr, h₁.get? c = none → c ≠ 51 ∧ c ≠ 58 ∧ c ≠ cA ∧ c ≠ cB := fun c hc => by
        have p1 : c ≠ 51 := fun z => by have := (N1 _ (.head _)).1; rw [← z, hc] at this; cases this
        have p2 : c ≠ 58 := fun z => by have := (N1 _ (.tail _ (.tail _ (.head _)))).1; rw [← z, hc] at this; cases this
        refine ⟨p1, p2, fun z => ?_, fun z => ?_⟩
        · by_cases q : cA = 51
          · exact p1 (z.trans q)
          · have := (N1 _ (.tail _ (.head _))).1
            rw [show cA₁ = c from (iA q).1.trans z.symm, hc] at this; cases this
        · by_cases q : cB = 58
          · exact p2 (z.trans q)
          · have := (N1 _ (.tail _ (.tail _ (.tail _ (.head _))))).1
            rw [show cB₁ = c from (iB q).1.trans z.symm, hc] at this; cases this
      have jA' : Shut (cA' = cA ∨ (cA' ≠ 51 ∧ cA' ≠ 58 ∧ cA' ≠ cA ∧ cA' ≠ cB)) := by
        rcases fA with rfl | z
        · exact jA
        · exact .inr (pres _ z)
      have jB' : Shut (cB' = cB ∨ (cB' ≠ 51 ∧ cB' ≠ 58 ∧ cB' ≠ cA ∧ cB' ≠ cB)) := by
        rcases fB with rfl | z
        · exact jB
        · exact .inr (pres _ z)
      obtain ⟨k₂, rfl⟩ : ∃ k₂, k₁ = k₂ + 1 := by
        cases k₁ with
        | zero => exact nomatch hs
        | succ k₂ => exact ⟨k₂, rfl⟩
      simp only [eucF, hd0, if_false] at hs
      clear F1 N1 N2 fA fB gA gB iA iB jA jB
      dsimp only
      cases b
      · k_steps
        rename News _ _ _ _ => N'; rename Fr _ _ _ _ => F'
        refine ⟨_, _, _, _, (u.fmod d).toNat, rfl, F', fun p hp => N' p (.tail _ (.tail _ hp)), by omega, d, u.fmod d, _, true, k₂, _, _, _, _, _, _, _, _, _, _, rfl, rfl, rfl, rfl, rfl, hA', hB', nAB', hd', by omega, ?len, rfl, hs, iA', iB', jA', jB'⟩
        case len => rw [Str.length_append]; omega
      · k_steps
        rename News _ _ _ _ => N'; rename Fr _ _ _ _ => F'
        refine ⟨_, _, _, _, (u.fmod d).toNat, rfl, F', fun p hp => N' p (.tail _ (.tail _ hp)), by omega, d, u.fmod d, _, false, k₂, _, _, _, _, _, _, _, _, _, _, rfl, rfl, rfl, rfl, rfl, hA', hB', nAB', hd', by omega, ?len, rfl, hs, iA', iB', jA', jB'⟩
        case len => rw [Str.length_append]; omega
    · have hd0 : d = 0 := by omega
      obtain ⟨k₂, rfl⟩ : ∃ k₂, k₁ = k₂ + 1 := by
        cases k₁ with
        | zero => exact nomatch hs
        | succ k₂ => exact ⟨k₂, rfl⟩
      simp only [eucF, hd0, if_true, Option.some.injEq] at hs
      subst hs
      rename News _ _ _ _ => N'; rename Fr _ _ _ _ => F'
      have P := fun p hp => newsUp F N K' N' (p := p) hp
      have four : ∀ c : Addr, c ≠ 51 ∧ c ≠ 58 ∧ c ≠ cA ∧ c ≠ cB → ∀ p ∈ [((51 : Addr), oA), (cA, ocA), (58, oB), (cB, ocB)], p.1 ≠ c := by
        intro c hc p hp
        simp only [List.mem_cons, List.not_mem_nil, or_false] at hp
        rcases hp with rfl | rfl | rfl | rfl
        · exact Ne.symm hc.1
        · exact Ne.symm hc.2.2.1
        · exact Ne.symm hc.2.1
        · exact Ne.symm hc.2.2.2
      refine hret _ _ _ _ _ oA₁ cA₁ ocA₁ oB₁ cB₁ ocB₁ (keepsOf K' N F' N' ?ks) (freshOf K' N' (.head _) ?fr) (N' _ (.head _)).1 (fun p hp => P p (.tail _ hp)) hA₁ hB₁ (jA.out.imp id fun z => freshOf K' N' (.tail _ (.tail _ (.head _))) (four _ z)) (jB.out.imp id fun z => freshOf K' N' (.tail _ (.tail _ (.tail _ (.tail _ (.head _))))) (four _ z)) nAB₁ iA iB
      case fr =>
        intro p hp
        simp only [List.mem_cons, List.not_mem_nil, or_false] at hp
        rcases hp with rfl | rfl | rfl | rfl
        · k_ne
        · by_cases z : cA = 51
          · subst z; k_ne
          · obtain ⟨z1, z2⟩ := iA z; subst z1; k_ne
        · k_ne
        · by_cases z : cB = 58
          · subst z; k_ne
          · obtain ⟨z1, z2⟩ := iB z; subst z1; k_ne
      case ks =>
        intro p hp
        simp only [List.mem_cons, List.not_mem_nil, or_false] at hp
        rcases hp with rfl | rfl | rfl | rfl
        · exact .inr (by simp)
        · by_cases z : cA = 51
          · exact .inr (by simp [z])
          · obtain ⟨z1, z2⟩ := iA z; subst z1 z2; exact .inl (by simp)
        · exact .inr (by simp)
        · by_cases z : cB = 58
          · exact .inr (by simp [z])
          · obtain ⟨z1, z2⟩ := iB z; subst z1 z2; exact .inl (by simp)
  · passes_own
end
end
/-! text Mo1 -/
section
theorem linesMo1x1 : True := by
  k_with_none
  k_with "mine enter" => ((refine' enter ?k2z86 ?k3z86 ?k4z86 ?k5z86 ?k6z86 ?k7z86 ?k8z86 ?k9z86 ?kBz86 ?_ ?c2z86 ?c3z86 ?c4z86 ?c5z86; (case k2z86 => k_asm); (case k3z86 => k_asm); (case k4z86 => k_asm); (case k5z86 => k_asm); (case k6z86 => k_is); (case k7z86 => k_is); (case k8z86 => ktr_room); (case k9z86 => exact BindsTo.of_eq rfl); (case c5z86 => decide); (case kBz86 => exact locs rfl); (case c2z86 => exact rfl); (case c3z86 => exact rfl); (case c4z86 => exact rfl); k_whole))
  k_with "mine keeps" => (((with_reducible rename Keeps _ _ _ => kK); (have F' := frAfter0 (by k_asm) kK); (have N' := newsAfter0 (by k_asm) kK); clear kK; (try k_sweep)))
  k_with "mine made" => (((with_reducible rename Keeps _ _ _ => kK); rename (Heap.get? _ _ = none) => kn; rename (Heap.get? _ _ = some _) => ks; (have l1 := allNe_of (by k_asm) kn); (have N' := newsIn (by k_asm) kn ks (newsAfter0 (by k_asm) kK)); (have F' := frAfter0 (by k_asm) kK); clear kK kn ks; (try k_sweep)))
  trivial
variable {pg : Program} {lz : List Str} {w : World} {mean : ExcName → Option Value} {mg mb : Str → Option Value}
   {dp un : Nat} {gd : Option (List Code)} {cn : Str} {cs : Scope} {a : Addr} {ccd : Value} {cl : List (Str × Addr)} {outer : List Env} {h₀ : Heap} {L : Addr} {m : Str → Option Value} {s : Shared} {Q E : Value → Shared → Prop}
open PySem.SeqAt in
/-- each pair of items compares as equal -/
noncomputable def EqL (A : Around) (s : Shared) : List Value → List Value → Prop
  | [], [] => True
  | x :: xs, y :: ys => EqAt A s x y true ∧ EqL A s xs ys
  | _, _ => False
section
open PySem.SeqAt
variable {prog : Program} {A : Around}
theorem EqL.len : ∀ {xs ys : List Value}, EqL A s xs ys → xs.length = ys.length
  | [], [], _ => rfl
  | _ :: _, _ :: _, h => congrArg (· + 1) (EqL.len h.2)
  | [], _ :: _, h => h.elim
  | _ :: _, [], h => h.elim
theorem EqL.at : ∀ {xs ys : List Value}, EqL A s xs ys → ∀ j (h1 : j < xs.length) (h2 : j < ys.length), EqAt A s xs[j] ys[j] true
  | [], [], _, j, h1, _ => absurd h1 (Nat.not_lt_zero _)
  | _ :: _, _ :: _, h, 0, _, _ => h.1
  | _ :: _, _ :: _, h, j + 1, h1, h2 => EqL.at h.2 j (Nat.lt_of_succ_lt_succ h1) (Nat.lt_of_succ_lt_succ h2)
  | [], _ :: _, h, _, _, _ => h.elim
  | _ :: _, [], h, _, _, _ => h.elim
theorem EqL.ends {xs ys : List Value} (h : EqL A s xs ys) : ((List.range (min xs.toArray.size ys.toArray.size)).all (fun _ => true) && xs.toArray.size == ys.toArray.size) = true := by
  have := h.len
  simp [this]
theorem rcT {l b : Addr} {xs ys : List Value} (hl : s.heap.IsTuple l xs.toArray) (hb : s.heap.IsTuple b ys.toArray) (hu : A.units < cLine) (he : EqL A.in1 s xs ys) : RcAt A s (.ref l) (.ref b) true := by
  have := RcAt.tuples (e := fun _ => true) hl hb hu (fun j h1 h2 => by simpa using he.at j (by simpa using h1) (by simpa using h2))
  rwa [he.ends] at this
theorem rcL {l b : Addr} {xs ys : List Value} (hl : s.heap.IsList l xs.toArray) (hb : s.heap.IsList b ys.toArray) (hu : A.units < cLine) (he : EqL A.in1 s xs ys) : RcAt A s (.ref l) (.ref b) true := by
  have := RcAt.lists (e := fun _ => true) hl hb (by simpa using he.len) hu (fun j h1 h2 => by simpa using he.at j (by simpa using h1) (by simpa using h2))
  have e : ((List.range xs.toArray.size).all fun _ => true) = true := List.all_eq_true.mpr fun _ _ => rfl
  rwa [e] at this
theorem eqT {l b : Addr} {xs ys : List Value} (hl : s.heap.IsTuple l xs.toArray) (hb : s.heap.IsTuple b ys.toArray) (hu : A.units < cLine) (he : EqL A.in1 s xs ys) (h : Q (.bool true) s) :
    wpAny (model prog w) A (compareOp .Eq (.ref l) (.ref b)) Q E s := rcT hl hb hu he prog w E Q h
theorem eqLs {l b : Addr} {xs ys : List Value} (hl : s.heap.IsList l xs.toArray) (hb : s.heap.IsList b ys.toArray) (hu : A.units < cLine) (he : EqL A.in1 s xs ys) (h : Q (.bool true) s) :
    wpAny (model prog w) A (compareOp .Eq (.ref l) (.ref b)) Q E s := rcL hl hb hu he prog w E Q h
theorem neT {l b : Addr} {xs ys : List Value} (hl : s.heap.IsTuple l xs.toArray) (hb : s.heap.IsTuple b ys.toArray) (hu : A.units < cLine) (he : EqL A.in1 s xs ys) (h : Q (.bool false) s) :
    wpAny (model prog w) A (compareOp .NotEq (.ref l) (.ref b)) Q E s := by
  have := RcNeAt.tuples (e := fun _ => true) hl hb hu (fun j h1 h2 => by simpa using he.at j (by simpa using h1) (by simpa using h2))
  rw [he.ends] at this
  exact this prog w E Q h
theorem neLs {l b : Addr} {xs ys : List Value} (hl : s.heap.IsList l xs.toArray) (hb : s.heap.IsList b ys.toArray) (hu : A.units < cLine) (he : EqL A.in1 s xs ys) (h : Q (.bool false) s) :
    wpAny (model prog w) A (compareOp .NotEq (.ref l) (.ref b)) Q E s := by
  have := RcNeAt.lists (e := fun _ => true) hl hb (by simpa using he.len) hu (fun j h1 h2 => by simpa using he.at j (by simpa using h1) (by simpa using h2))
  have e : (!(List.range xs.toArray.size).all fun _ => true) = false := by rw [List.all_eq_true.mpr fun _ _ => rfl]; rfl
  rw [e] at this
  exact this prog w E Q h
theorem none_of {K : Frag} {h : Heap} {mg : Str → Option Value} {n : Str} {ns : Addr} (X : K.In h) (G : h.Ns ns mg) (e : nsIn K ns n = some none) : mg n = none := by
  obtain ⟨o, es, ep, ho, hd, _, hf⟩ := G
  unfold nsIn at e
  split at e
  · rename_i c d es' n' sl q
    have := X _ _ q
    rw [ho] at this
    cases this
    cases hd
    split at e
    · cases e
    · rename_i he
      rw [← hf]
      unfold nsFind findBy
      rw [← Array.find?_toList, he]
      rfl
  · cases e
theorem noneBooked (F : Fr h₀ L s.heap m) (X : (Mine.hd.heap_1 w.params).In h₀) (T : Top pg lz mean mg mb h₀) : NoneBooked s.heap := by
  obtain ⟨mc, hn, _⟩ := T.nodigits
  exact ⟨mc, hn.keeps F.keep, none_of X hn rfl⟩
theorem created_any {M : Model} {y : Bool} {u v : Tok} {Q : Bool → Shared → Prop}
    (h0 : Tk True u) (h1 : Tk True v) (hb : NoneBooked s.heap) (hq : ∀ b, Q b s) : wpAny M A (isSame.created y u v) Q E s := by
  have h0' : (u == 0 || v == 0) = false := by
    have a := h0.ne
    have b := h1.ne
    simp [a, b]
  unfold isSame.created
  refine wpAny_ite ?_
  split
  · rename_i h; rw [h0'] at h; exact absurd h Bool.false_ne_true
  refine wpAny_ite ?_
  split
  · exact wpAny_pure (hq _)
  refine wpAny_ite ?_
  split
  · exact wpAny_pure (hq _)
  refine wpAny_bind (wpAny_sharingNotTold_none hb ?_)
  first | rw [if_neg Bool.false_ne_true] | simp only [Bool.false_eq_true, if_false]
  refine wpAny_bind (wpAny_sharingNotTold_none hb ?_)
  first | rw [if_neg Bool.false_ne_true] | simp only [Bool.false_eq_true, if_false]
  exact wpAny_bind (wpAny_rule (wpAny_bind (wpAny_askSetting (wpAny_pure (hq _)))))
theorem eqF_at {x y : UInt64} {t u : Tok} (h : eqF x y = true) (ht : Tk True t) (hu : Tk True u) (hb : NoneBooked s.heap) : EqAt A s (.float x t) (.float y u) true := fun prog w E Q hq => by
  unfold eqBool
  refine wpAny_holding ?_
  refine wpAny_ite_split (fun _ => wpAny_bind (wpAny_rule (wpAny_pure hq))) (fun _ => ?_)
  have e : (Float64.cmp x y == some Ordering.eq) = true := h
  refine wpAny_bind (show wpAny _ A (isSame.created _ t u) _ _ _ from created_any ht hu hb fun b => ?_)
  have R : wpAny (model prog w) A (richCompare .Eq (.float x t) (.float y u)) (fun a s' => wpAny (model prog w) A (truthOfDropped a) Q E s') E s := by
    refine (show wpAny _ A (compareOp .Eq _ _) _ _ _ from AutoFloatOps.eq_0 ?_)
    rw [e]
    exact wpAny_truthy_bool hq
  cases b
  · exact wpAny_bind R
  · exact wpAny_pure hq
theorem eqI_at {x y : Int} {t u : Tok} (h : x = y) : EqAt A s (.int x t) (.int y u) true := by
  have := EqAt.int_int (A := A) (s := s) x t y u
  rwa [show (x == y) = true by simp [h]] at this
theorem eqS_at {x y : Str} {t u : Tok} (h : x = y) : EqAt A s (.str x t) (.str y u) true := by
  have := (eqGives_str x y t u).at A s
  rwa [show (x == y) = true by simp [h]] at this
theorem eqR_at {l b : Addr} {xs ys : List Value} (hne : l ≠ b) (hl : s.heap.IsTuple l xs.toArray) (hb : s.heap.IsTuple b ys.toArray) (hu : A.units < cLine) (he : EqL A.in1 s xs ys) : EqAt A s (.ref l) (.ref b) true := .of_refs hne (rcT hl hb hu he)
end
end
/-! text Mo2 -/
section
theorem linesMo2x1 : True := by
  k_with_none
  k_with "mine enter" => ((refine' enter ?k2z89 ?k3z89 ?k4z89 ?k5z89 ?k6z89 ?k7z89 ?k8z89 ?k9z89 ?kBz89 ?_ ?c2z89 ?c3z89 ?c4z89 ?c5z89; (case k2z89 => k_asm); (case k3z89 => k_asm); (case k4z89 => k_asm); (case k5z89 => k_asm); (case k6z89 => k_is); (case k7z89 => k_is); (case k8z89 => ktr_room); (case k9z89 => exact BindsTo.of_eq rfl); (case c5z89 => decide); (case kBz89 => exact locs rfl); (case c2z89 => exact rfl); (case c3z89 => exact rfl); (case c4z89 => exact rfl); k_whole))
  k_with "mine keeps" => (((with_reducible rename Keeps _ _ _ => kK); (have F' := frAfter0 (by k_asm) kK); (have N' := newsAfter0 (by k_asm) kK); clear kK; (try k_sweep)))
  k_with "mine made" => (((with_reducible rename Keeps _ _ _ => kK); rename (Heap.get? _ _ = none) => kn; rename (Heap.get? _ _ = some _) => ks; (have l1 := allNe_of (by k_asm) kn); (have N' := newsIn (by k_asm) kn ks (newsAfter0 (by k_asm) kK)); (have F' := frAfter0 (by k_asm) kK); clear kK kn ks; (try k_sweep)))
  trivial
variable {pg : Program} {lz : List Str} {w : World} {mean : ExcName → Option Value} {mg mb : Str → Option Value}
   {dp un : Nat} {gd : Option (List Code)} {cn : Str} {cs : Scope} {a : Addr} {ccd : Value} {cl : List (Str × Addr)} {outer : List Env} {h₀ : Heap} {L : Addr} {m : Str → Option Value} {s : Shared} {Q E : Value → Shared → Prop}
noncomputable def defOf' : Option Stmt → Option (Arguments × List Stmt × Scope)
  | some (.FunctionDef _ p b _ _ _ sc _ _ _) => some (p, b, sc)
  | _ => none
noncomputable def oneDef : Option (Arguments × List Stmt × Scope) := defOf' (PySem.Challenge.pw_ph0126_01.main.body[19]?)
abbrev oneEnv (scope : Scope) (L : Addr) : Env := envOfC (Str.ofString "_law_one") scope L 117 (.ref 116)
section
variable {M : Model} {A : Around}
theorem ldE {env : Env} {x : Str} {pos : Pos} {v : Value} (F : Fr h₀ L s.heap m) (hL : env.locals = L) (hv : m x = some v) (h : Q v s)
    (hk : env.scope.kind = .function := by rfl) (hl : env.kindOf x = some .local := by rfl) (hd : (x == ("__debug__" : Str)) = false := by decide) :
    wpAny M A (eval (.Name x pos) env) Q E s := wpAny_Name (wpAny_loadName_local hk hl (hL ▸ F.ns) hv h) hd
theorem ldnE {env : Env} {x : Str} {v : Value} (F : Fr h₀ L s.heap m) (hL : env.locals = L) (hv : m x = some v) (h : Q v s)
    (hk : env.scope.kind = .function := by rfl) (hl : env.kindOf x = some .local := by rfl) :
    wpAny M A (loadName env x) Q E s := wpAny_loadName_local hk hl (hL ▸ F.ns) hv h
theorem tupAt {h : Heap} {l : Addr} {vs : List Value} {led : List (Addr × Obj)} (N : News h₀ L h led) (hm : (l, tupO vs) ∈ led) : h.IsTuple l vs.toArray := ⟨_, (N _ hm).1, rfl, 0, rfl⟩
theorem lstAt {h : Heap} {l : Addr} {vs : List Value} {led : List (Addr × Obj)} (N : News h₀ L h led) (hm : (l, lstO vs) ∈ led) : h.IsList l vs.toArray := ⟨_, (N _ hm).1, rfl, 0, rfl⟩
/-- an item of a list of the ledger, at a place that is not written -/
theorem itemAt {n : Nat} {prog : Program} {value slice : PySem.Expr} {l : Addr} {vs : List Value} {led : List (Addr × Obj)} {k : Int} {u : Tok} {v : Value} (N : News h₀ L s.heap led) (hm : (l, ({ cls := .type "list", data := .seq vs.toArray n } : Obj)) ∈ led)
    (hx : 0 ≤ k ∧ k < 1000 ∧ vs[k.toNat]? = some v) (h : Q v s)
    (hs : subscripted slice false (.ref l) (.int k u) = operate [.ref l, .int k u] (getItem (.ref l) (.int k u)) := by with_unfolding_all rfl) :
    wpAny (model prog w) A (subscriptTail value slice (.ref l) (.int k u)) Q E s :=
  have hl : s.heap.IsList l vs.toArray := ⟨_, (N _ hm).1, rfl, _, rfl⟩
  tail_any hl.typeIs slot_list_getitem.lookup (wpAny_getItem_list hl hx.1 (by omega) (by simpa using hx.2.2) h) hs
theorem nodup2 {a b : Int} (h : a ≠ b) : [a, b].Nodup := by simp [h]
end
end
/-! text Mo3 -/
section
theorem linesMo3x1 : True := by
  k_with_none
  k_with "mine enter" => ((refine' enter ?k2z92 ?k3z92 ?k4z92 ?k5z92 ?k6z92 ?k7z92 ?k8z92 ?k9z92 ?kBz92 ?_ ?c2z92 ?c3z92 ?c4z92 ?c5z92; (case k2z92 => k_asm); (case k3z92 => k_asm); (case k4z92 => k_asm); (case k5z92 => k_asm); (case k6z92 => k_is); (case k7z92 => k_is); (case k8z92 => ktr_room); (case k9z92 => exact BindsTo.of_eq rfl); (case c5z92 => decide); (case kBz92 => exact locs rfl); (case c2z92 => exact rfl); (case c3z92 => exact rfl); (case c4z92 => exact rfl); k_whole))
  k_with "mine keeps" => (((with_reducible rename Keeps _ _ _ => kK); (have F' := frAfter0 (by k_asm) kK); (have N' := newsAfter0 (by k_asm) kK); clear kK; (try k_sweep)))
  k_with "mine made" => (((with_reducible rename Keeps _ _ _ => kK); rename (Heap.get? _ _ = none) => kn; rename (Heap.get? _ _ = some _) => ks; (have l1 := allNe_of (by k_asm) kn); (have N' := newsIn (by k_asm) kn ks (newsAfter0 (by k_asm) kK)); (have F' := frAfter0 (by k_asm) kK); clear kK kn ks; (try k_sweep)))
  trivial
variable {pg : Program} {lz : List Str} {w : World} {mean : ExcName → Option Value} {mg mb : Str → Option Value}
   {dp un : Nat} {gd : Option (List Code)} {cn : Str} {cs : Scope} {a : Addr} {ccd : Value} {cl : List (Str × Addr)} {outer : List Env} {h₀ : Heap} {L : Addr} {m : Str → Option Value} {s : Shared} {Q E : Value → Shared → Prop}
open PyProof.V
section
variable {prog : Program} {A : Around} {news : List (Addr × Obj)}
theorem perm2 {ns : List Int} {a b : Int} (p : ns.Perm [a, b]) (hs : ns.Pairwise (· ≤ ·)) (hab : a < b) : ns = [a, b] := by
  have hl := p.length_eq
  match ns, hl with
  | [c, d], _ =>
    have h1 : c ≤ d := by simpa using hs
    have hc : c = a ∨ c = b := by simpa using p.subset (List.mem_cons_self)
    have hd : d = a ∨ d = b := by simpa using p.subset (List.mem_cons_of_mem _ List.mem_cons_self)
    have ha : a = c ∨ a = d := by simpa using p.symm.subset (List.mem_cons_self)
    have hb : b = c ∨ b = d := by simpa using p.symm.subset (List.mem_cons_of_mem _ List.mem_cons_self)
    have : c = a ∧ d = b := by omega
    rw [this.1, this.2]
theorem ints2 {vs : List Value} {a b : Int} (h : IntsAre vs [a, b]) : ∃ t u, vs = [.int a t, .int b u] := by
  cases h with
  | cons _ t h => cases h with
    | cons _ u h => cases h; exact ⟨t, u, rfl⟩
theorem sortL {l : Addr} {vs : List Value} {ns : List Int} {c : Nat} {a b : Int} (F : Fr h₀ L s.heap m) (N : News h₀ L s.heap news) (hm : (l, PySem.W.listOf vs.toArray c) ∈ news) (hi : IntsAre vs ns) (hp : ns.Perm [a, b]) (hab : a < b)
    (h : ∀ D t u h' c', Fr h₀ L h' m → News h₀ L h' ((D, PySem.W.listOf [.int a t, .int b u].toArray c') :: news) → (∀ q ∈ news, q.1 < D) → Q (.ref D) { s with heap := h' }) :
    wpAny (model prog w) A (call (.builtin "sorted") [.ref l]) Q E s := by
  refine kso_sorted F N ⟨_, (N _ hm).1, rfl, _, rfl⟩ hi (by rw [hp.length_eq]; exact Nat.le_of_ble_eq_true rfl) fun D vs' ns' c' h' F' N' l1 i' _ p' s' _ => ?_
  have e := perm2 (p'.trans hp) s' hab
  subst e
  obtain ⟨t, u, rfl⟩ := ints2 i'
  exact h D t u h' _ F' N' l1
theorem tab2 {d : Addr} {o : Obj} {k0 k1 p q : Int} {t1 t2 : Tok} (N : News h₀ L s.heap news) (hm : (d, o) ∈ news) (lo : (d == sysModules) = false) (ho : o.IsDictOf (PySem.intKind prog w) [(k0, .int p t1), (k1, .int q t2)]) :
    TabAt (PySem.intKind prog w) PyData.int s.heap d [(.int k0, .int p), (.int k1, .int q)] := ⟨lo, _, Heap.dictOf_iff.mpr ⟨o, (N _ hm).1, ho⟩, flat2 ..⟩
theorem flatInt {v : Value} {i : Int} (h : Flat v (.int i)) : ∃ t, v = .int i t := by
  have := h {}
  cases this with
  | int _ t => exact ⟨t, rfl⟩
theorem sortD {d : Addr} {k0 k1 p q a b : Int} (hh : A.handled = none) (F : Fr h₀ L s.heap m) (N : News h₀ L s.heap news) (Ta : TabAt (PySem.intKind prog w) PyData.int s.heap d [(.int k0, .int p), (.int k1, .int q)]) (hp : (k0 = a ∧ k1 = b) ∨ (k0 = b ∧ k1 = a)) (hab : a < b)
    (h : ∀ D t u h' tk c', Fr h₀ L h' m → News h₀ L h' ((D, PySem.W.listOf [.int a t, .int b u].toArray c') :: news) → (∀ q ∈ news, q.1 < D) → Q (.ref D) { s with heap := h', toks := tk }) :
    wpAny (model prog w) A (call (.builtin "sorted") [.ref d]) Q E s := by
  refine kdu_sortedD (enc := PyData.int) (fun _ _ => kdl_flat_int) hh F N Ta (Nat.le_of_ble_eq_true rfl) fun B h' tk => ?_
  intro v0 f0 v1 f1 F' N' l1
  obtain ⟨t0, rfl⟩ := flatInt f0
  obtain ⟨t1, rfl⟩ := flatInt f1
  refine lks_sort (its := #[.int k0 t0, .int k1 t1]) (n := 0) (q := [a, b]) F' N' (fun t => Upd.head fun p hp => Nat.ne_of_lt (l1 p hp)) rfl ?_ rfl (Nat.le_of_ble_eq_true rfl) fun t h2 F2 N2 => h B _ _ h2 _ _ F2 N2 l1
  have e1 : decide (a ≤ b) = true := decide_eq_true (Int.le_of_lt hab)
  have e2 : ¬ a = b := Int.ne_of_lt hab
  rcases hp with ⟨rfl, rfl⟩ | ⟨rfl, rfl⟩ <;> simp [lks_ok, lks_nums, lks_asc, e1, e2, List.isPerm, List.erase_cons]
theorem lstAt2 {h : Heap} {l : Addr} {vs : List Value} {c : Nat} {led : List (Addr × Obj)} (N : News h₀ L h led) (hm : (l, PySem.W.listOf vs.toArray c) ∈ led) : h.IsList l vs.toArray := ⟨_, (N _ hm).1, rfl, _, rfl⟩
theorem sameInt (a b : Int) : PySem.Spec.same (PyData.int a) (PyData.int b) = decide (a = b) := by
  simp only [PySem.Spec.same]
  by_cases h : a = b <;> simp [h]
theorem look0 {k0 k1 : Int} {p q : PyData} : PySem.Spec.lookup (.int k0) [(.int k0, p), (.int k1, q)] = some p := by simp [PySem.Spec.lookup, sameInt]
theorem look1 {k0 k1 : Int} {p q : PyData} (h : k0 ≠ k1) : PySem.Spec.lookup (.int k1) [(.int k0, p), (.int k1, q)] = some q := by simp [PySem.Spec.lookup, sameInt, h, Ne.symm h]
theorem lookAt0 {e k0 k1 : Int} {p q : PyData} (h : e = k0) : PySem.Spec.lookup (.int e) [(.int k0, p), (.int k1, q)] = some p := by subst h; exact look0
theorem lookAt1 {e k0 k1 : Int} {p q : PyData} (h : e = k1) (h' : k0 ≠ k1) : PySem.Spec.lookup (.int e) [(.int k0, p), (.int k1, q)] = some q := by subst h; exact look1 h'
theorem itemD {value slice : PySem.Expr} {d : Addr} {D : List (PyData × PyData)} {k v : Int} {t : Tok} (Ta : TabAt (PySem.intKind prog w) PyData.int s.heap d D) (hl : PySem.Spec.lookup (.int k) D = some (.int v)) (h : ∀ u, Q (.int v u) { s with toks := s.toks + 1 })
    (hs : subscripted slice false (.ref d) (.int k t) = operate [.ref d, .int k t] (getItem (.ref d) (.int k t)) := by with_unfolding_all rfl) (hg : ∀ r, letTemporaryGo value (.ref d) r = pure () := by intro _; with_unfolding_all rfl) :
    wpAny (model prog w) A (subscriptTail value slice (.ref d) (.int k t)) Q E s := by
  refine kys_item (k := k) sameInt (beq_self_eq_true k) Ta ?_ hs hg
  unfold KysD
  rw [hl]
  intro v' f'
  obtain ⟨u, rfl⟩ := flatInt f'
  exact h u
theorem getD {d : Addr} {D : List (PyData × PyData)} {k v : Int} {t u : Tok} (Ta : TabAt (PySem.intKind prog w) PyData.int s.heap d D) (hl : (PySem.Spec.lookup (.int k) D).getD (.int 0) = .int v) (h : ∀ u, Q (.int v u) { s with toks := s.toks + 1 }) :
    wpAny (model prog w) A (call (.builtin "dict.get") [.ref d, .int k t, .int 0 u]) Q E s := by
  refine kys_get2 (k := k) (dd := .int 0) sameInt (beq_self_eq_true k) Ta (fun _ => .int _ _) ?_
  unfold KysD
  cases q : PySem.Spec.lookup (.int k) D with
  | some dv =>
    rw [q] at hl
    intro v' f'
    simp only [Option.getD_some] at hl
    subst hl
    obtain ⟨u, rfl⟩ := flatInt f'
    exact h u
  | none =>
    rw [q] at hl
    intro v' f'
    simp only [Option.getD_none, PyData.int.injEq] at hl
    subst hl
    obtain ⟨u, rfl⟩ := flatInt f'
    exact h u
end
end
/-! text Up2 -/
section
theorem linesUp2x1 : True := by
  k_with_none
  k_with "mine enter" => ((refine' enter ?k2z95 ?k3z95 ?k4z95 ?k5z95 ?k6z95 ?k7z95 ?k8z95 ?k9z95 ?kBz95 ?_ ?c2z95 ?c3z95 ?c4z95 ?c5z95; (case k2z95 => k_asm); (case k3z95 => k_asm); (case k4z95 => k_asm); (case k5z95 => k_asm); (case k6z95 => k_is); (case k7z95 => k_is); (case k8z95 => ktr_room); (case k9z95 => exact BindsTo.of_eq rfl); (case c5z95 => decide); (case kBz95 => exact locs rfl); (case c2z95 => exact rfl); (case c3z95 => exact rfl); (case c4z95 => exact rfl); k_whole))
  k_with "mine keeps" => (((with_reducible rename Keeps _ _ _ => kK); (have F' := frAfter0 (by k_asm) kK); (have N' := newsAfter0 (by k_asm) kK); clear kK; (try k_sweep)))
  k_with "mine made" => (((with_reducible rename Keeps _ _ _ => kK); rename (Heap.get? _ _ = none) => kn; rename (Heap.get? _ _ = some _) => ks; (have l1 := allNe_of (by k_asm) kn); (have N' := newsIn (by k_asm) kn ks (newsAfter0 (by k_asm) kK)); (have F' := frAfter0 (by k_asm) kK); clear kK kn ks; (try k_sweep)))
  trivial
variable {pg : Program} {lz : List Str} {w : World} {mean : ExcName → Option Value} {mg mb : Str → Option Value}
   {dp un : Nat} {gd : Option (List Code)} {cn : Str} {cs : Scope} {a : Addr} {ccd : Value} {cl : List (Str × Addr)} {outer : List Env} {h₀ : Heap} {L : Addr} {m : Str → Option Value} {s : Shared} {Q E : Value → Shared → Prop}
/-- the heap grows at its end alone -/
noncomputable def HpUp (h h' : Heap) : Prop := h.objs.size ≤ h'.objs.size ∧ ∀ a : Addr, a < h.objs.size → h.get? a = none → h'.get? a = none
theorem HpUp.refl (h : Heap) : HpUp h h := ⟨Nat.le_refl _, fun _ _ e => e⟩
theorem HpUp.trans {a b c : Heap} (x : HpUp a b) (y : HpUp b c) : HpUp a c := ⟨Nat.le_trans x.1 y.1, fun d hd e => y.2 d (Nat.lt_of_lt_of_le hd x.1) (x.2 d hd e)⟩
theorem HpUp.push (h : Heap) (o : Obj) : HpUp h (h.push o) := ⟨by rw [Heap.size_push]; exact Nat.le_succ _, fun a ha e => by
  cases q : (h.push o).get? a with
  | none => rfl
  | some x =>
    have : (h.push o).get? a = h.get? a := by
      unfold Heap.get? Heap.push
      simp [Array.getElem?_push, Nat.ne_of_lt ha]
    rw [this, e] at q; cases q⟩
theorem HpUp.update (h : Heap) (b : Addr) (f : Obj → Obj) (hs : (h.get? b).isSome) : HpUp h (h.update b f) := by
  constructor
  · simp [Heap.update]
  · intro a ha e
    have ne : a ≠ b := fun q => by rw [← q, e] at hs; cases hs
    rw [Heap.get?_update_ne h a b f ne]; exact e
theorem runs_hp {M : Model} {Γ : Ctx} {p : Pos} {t : Sem Fin} {fs : List Frame} {s s' : Shared} {e : End} (h : Runs M Γ p t fs s e s') : HpUp s.heap s'.heap := by
  induction h with
  | done => exact .refl _
  | raise => exact .refl _
  | yield => exact .refl _
  | alloc _ ih => exact (HpUp.push _ _).trans ih
  | update hs _ ih => exact (HpUp.update _ _ _ hs).trans ih
  | call _ _ i j => exact i.trans j
  | resumeFresh _ _ _ _ i j => exact i.trans j
  | resumeSuspended _ _ _ _ i j => exact i.trans j
  | segRet _ _ i j => exact i.trans j
  | segGen _ _ i j => exact i.trans j
  | segSuspGen _ _ _ _ i j => exact i.trans j
  | _ => assumption
theorem wakes_hp {M : Model} {Γ : Ctx} {p : Pos} {g : Nat} {r : Resume} {s s' : Shared} {res : GenResult} (h : Wakes M Γ p g r s res s') : HpUp s.heap s'.heap := by
  unfold Wakes at h
  split at h
  · exact h.elim
  · split at h
    · obtain ⟨e, s₁, R, _, _, rfl⟩ := h; have := runs_hp R; exact this
    · rw [h.2]; exact .refl _
    · rw [h.2]; exact .refl _
  · obtain ⟨e, s₁, R, _, _, rfl⟩ := h; have := runs_hp R; exact this
  · rw [h.2]; exact .refl _
  · rw [h.2]; exact .refl _
theorem wp_hp {α : Type} (M : Model) (Γ : Ctx) (t : Sem α) : ∀ (Q : α → Pos → Shared → Prop) (E : Value → Pos → Shared → Prop) (p : Pos) (s : Shared) (k : Heap), HpUp k s.heap →
    Sem.wp M Γ t (fun a p s' => HpUp k s'.heap → Q a p s') E p s → Sem.wp M Γ t Q E p s := by
  induction t with
  | pure a => intro Q E p s k hk h; exact h hk
  | raise e => intro Q E p s k hk h; exact h
  | unsupported _ => intro Q E p s k hk h; exact h
  | finish _ => intro Q E p s k hk h; exact h
  | register _ _ => intro Q E p s k hk h; exact h
  | «yield» => intro Q E p s k hk h; exact h
  | fork => intro Q E p s k hk h; exact h
  | await => intro Q E p s k hk h; exact h
  | rule _ f ih => intro Q E p s k hk h; exact ih _ _ _ _ _ _ hk h
  | «at» _ f ih => intro Q E p s k hk h; exact ih _ _ _ _ _ _ hk h
  | load a pt f ih => intro Q E p s k hk h; obtain ⟨o, e, h⟩ := h; exact ⟨o, e, ih _ _ _ _ _ _ hk h⟩
  | update a pt g f ih => intro Q E p s k hk h; exact ⟨h.1, ih _ _ _ _ _ _ (hk.trans (HpUp.update _ _ _ h.1)) h.2⟩
  | loadIfAlive a f ih => intro Q E p s k hk h; exact ih _ _ _ _ _ _ hk h
  | point _ f ih => intro Q E p s k hk h; exact ih _ _ _ _ _ _ hk h
  | alloc o f ih => intro Q E p s k hk h; exact ih _ _ _ _ _ _ (hk.trans (HpUp.push _ _)) h
  | fresh f ih => intro Q E p s k hk h; exact ih _ _ _ _ _ _ hk h
  | ask f ih => intro Q E p s k hk h; exact ih _ _ _ _ _ _ hk h
  | choose _ _ f ih => intro Q E p s k hk h; exact ⟨h.1, ih _ _ _ _ _ _ hk h.2⟩
  | os _ _ f ih => intro Q E p s k hk h; exact ih _ _ _ _ _ _ hk h
  | call c hh g l f ih =>
    intro Q E p s k hk h
    obtain ⟨r, s', R, h⟩ := h
    exact ⟨r, s', R, ih _ _ _ _ _ _ (hk.trans (runs_hp R)) h⟩
  | handled own f ih => intro Q E p s k hk h; exact ih _ _ _ _ _ _ hk h
  | genState g f ih => intro Q E p s k hk h; obtain ⟨st, e, h⟩ := h; exact ⟨st, e, ih _ _ _ _ _ _ hk h⟩
  | newGen c f ih => intro Q E p s k hk h; exact ih _ _ _ _ _ _ hk h
  | resume g r l f ih =>
    intro Q E p s k hk h
    obtain ⟨res, s', W, h⟩ := h
    exact ⟨res, s', W, ih _ _ _ _ _ _ (hk.trans (wakes_hp W)) h⟩
  | stack f ih => intro Q E p s k hk h; exact ih _ _ _ _ _ _ hk h
  | thread f ih => intro Q E p s k hk h; exact ih _ _ _ _ _ _ hk h
theorem wpHp {α : Type} {M : Model} {A : Around} {t : Sem α} {Q : α → Shared → Prop} (h : wpAny M A t (fun a s' => HpUp s.heap s'.heap → Q a s') E s) : wpAny M A t Q E s :=
  fun Γ p hΓ => wp_hp M Γ t _ _ p s s.heap (HpUp.refl _) (h Γ p hΓ)
theorem HpUp.new {h h' : Heap} {a d : Addr} {o o' : Obj} (u : HpUp h h') (n : h.get? a = none) (g : h'.get? a = some o) (gd : h.get? d = some o') : @LT.lt Nat _ d a := by
  have q : ¬ a < h.objs.size := fun q => by rw [u.2 a q n] at g; cases g
  have := Heap.lt_size gd
  exact Nat.lt_of_lt_of_le this (Nat.le_of_not_lt q)
end
/-! text Me1 -/
section
theorem linesMe1x1 : True := by
  k_with_none
  k_with "mine enter" => ((refine' enter ?k2z98 ?k3z98 ?k4z98 ?k5z98 ?k6z98 ?k7z98 ?k8z98 ?k9z98 ?kBz98 ?_ ?c2z98 ?c3z98 ?c4z98 ?c5z98; (case k2z98 => k_asm); (case k3z98 => k_asm); (case k4z98 => k_asm); (case k5z98 => k_asm); (case k6z98 => k_is); (case k7z98 => k_is); (case k8z98 => ktr_room); (case k9z98 => exact BindsTo.of_eq rfl); (case c5z98 => decide); (case kBz98 => exact locs rfl); (case c2z98 => exact rfl); (case c3z98 => exact rfl); (case c4z98 => exact rfl); k_whole))
  k_with "mine keeps" => (((with_reducible rename Keeps _ _ _ => kK); (have F' := frAfter0 (by k_asm) kK); (have N' := newsAfter0 (by k_asm) kK); clear kK; (try k_sweep)))
  k_with "mine made" => (((with_reducible rename Keeps _ _ _ => kK); rename (Heap.get? _ _ = none) => kn; rename (Heap.get? _ _ = some _) => ks; (have l1 := allNe_of (by k_asm) kn); (have N' := newsIn (by k_asm) kn ks (newsAfter0 (by k_asm) kK)); (have F' := frAfter0 (by k_asm) kK); clear kK kn ks; (try k_sweep)))
  trivial
variable {pg : Program} {lz : List Str} {w : World} {mean : ExcName → Option Value} {mg mb : Str → Option Value}
   {dp un : Nat} {gd : Option (List Code)} {cn : Str} {cs : Scope} {a : Addr} {ccd : Value} {cl : List (Str × Addr)} {outer : List Env} {h₀ : Heap} {L : Addr} {m : Str → Option Value} {s : Shared} {Q E : Value → Shared → Prop}
theorem linesMe1x2 : True := by
  k_with "mine tk" => (((try dsimp only); first | with_reducible assumption | ((repeat (with_reducible refine Tk.add _ ?_)); with_reducible assumption) | exact Tk.succ | fail "mine: tk"))
  k_with "exec Assign" => (((fail_if_success (with_reducible show wpAny _ _ _ (UpQ _ _) _ _)); refine wpUp (by walk_at "mine tk") ?_))
  k_with "exec If" => (((fail_if_success (with_reducible show wpAny _ _ _ (UpQ _ _) _ _)); refine wpUp (by walk_at "mine tk") ?_))
  k_with "execs cons" => (((with_reducible show wpAny _ _ _ _ _ (Shared.mk _ _ _ (HAdd.hAdd _ _) _)); (refine genTk (by walk_at "mine tk") ?_); intro tk' hTk'; (try dsimp only)))
  k_with "UpQ" => ((refine UpQ.mk ?_; intro hTk'; (try dsimp only at hTk'); (try dsimp only)))
  k_with "loadName" => ((k_here; k_dflt (refine' ldnE ?k1z106 ?kLz106 ?k2z106 ?_; (case k1z106 => k_asm); (case kLz106 => exact rfl); (case k2z106 => first | exact rfl | assumption | fail "no"); k_whole)))
  k_with "eval Name" => ((k_here; k_dflt (refine' ldE ?k1z107 ?kLz107 ?k2z107 ?_; (case k1z107 => k_asm); (case kLz107 => exact rfl); (case k2z107 => first | exact rfl | assumption | fail "no"); k_whole)))
  k_with "mine eq1" => (first | exact eqI_at (by first | rfl | with_reducible assumption | omega) | exact eqF_at (by first | with_reducible assumption | exact Eq.symm (by with_reducible assumption)) (by walk_at "mine tk") (by walk_at "mine tk") (by exact noneBooked (by k_asm) (by k_asm) (by k_asm)) | exact eqS_at (by first | rfl | with_reducible assumption))
  k_with "mine eql" => (((try simp only [EqL, and_true]); (repeat' apply And.intro); all_goals walk_at "mine eq1"))
  k_with "compareOp Eq ref ref" => ((k_here; k_dflt (refine' eqT ?hlz110 ?hbz110 ?huz110 ?hez110 ?_; (case hlz110 => exact tupAt (by k_asm) (by k_mem)); (case hbz110 => exact tupAt (by k_asm) (by k_mem)); (case huz110 => ktr_units); (case hez110 => walk_at "mine eql"))))
  k_with "compareOp NotEq ref ref" => ((k_here; k_dflt (refine' neT ?hlz111 ?hbz111 ?huz111 ?hez111 ?_; (case hlz111 => exact tupAt (by k_asm) (by k_mem)); (case hbz111 => exact tupAt (by k_asm) (by k_mem)); (case huz111 => ktr_units); (case hez111 => walk_at "mine eql"))))
  k_with "subscriptTail Name Name ref int" => ((k_here; (with_reducible show wpAny _ _ (subscriptTail _ _ (Value.ref _) (Value.int _ _)) _ _ _); k_dflt (refine' itemAt ?Nz112 ?mz112 ?xz112 ?_ ?sz112; (case Nz112 => k_asm); (case mz112 => k_mem); (case xz112 => exact ⟨by omega, by omega, by with_reducible assumption⟩); (case sz112 => with_unfolding_all rfl))))
  k_with "subscriptTail Name BinOp ref int" => ((k_here; (with_reducible show wpAny _ _ (subscriptTail _ _ (Value.ref _) (Value.int _ _)) _ _ _); k_dflt (refine' itemAt ?Nz113 ?mz113 ?xz113 ?_ ?sz113; (case Nz113 => k_asm); (case mz113 => k_mem); (case xz113 => exact ⟨by omega, by omega, by with_reducible assumption⟩); (case sz113 => with_unfolding_all rfl))))
  k_with "exec Assign cons Dict" => (((fail_if_success (with_reducible show wpAny _ _ _ (UpQ _ _) _ _)); refine wpUp (by walk_at "mine tk") ?_))
  k_with "exec Assign cons ListComp" => (((fail_if_success (with_reducible show wpAny _ _ _ (UpQ _ _) _ _)); refine wpUp (by walk_at "mine tk") ?_))
  k_with "exec Assign cons Call" => (((fail_if_success (with_reducible show wpAny _ _ _ (UpQ _ _) _ _)); refine wpUp (by walk_at "mine tk") ?_))
  k_with "exec Assign cons" => (((fail_if_success (with_reducible show wpAny _ _ _ (UpQ _ _) _ _)); refine wpUp (by walk_at "mine tk") ?_))
  trivial
theorem newsSub {h : Heap} {led led' : List (Addr × Obj)} (N : News h₀ L h led) (hs : ∀ p ∈ led', p ∈ led) : News h₀ L h led' := fun p hp => N p (hs p hp)
section
theorem linesMe1x3 : True := by
  k_with "call builtin:sorted" => (refine ofMark ?_)
  k_with "compareOp NotEq ref ref" => (refine ofMark ?_)
  k_with "subscriptTail Name Subscript ref int" => (refine ofMark ?_)
  k_with "execs cons" => (((with_reducible show wpAny _ _ (execs (Stmt.Assign [Expr.Name (Str.ofString "measure") _] _ _ :: _) _) _ _ _); refine ofMark ?_))
  k_with "KdnMade" => ((k_here; k_dflt (refine' kdn_made_intF ?Fz122 ?Nz122 ?Uz122 ?dz122 ?kz122 ?nz122 ?vz122 ?_; (case Fz122 => k_asm); (case Nz122 => k_asm); (case Uz122 => k_updF); (case dz122 => k_asm); (case kz122 => rfl); (case nz122 => (simp only [intKeyPairs, List.map_cons, List.map_nil, List.filterMap_cons, List.filterMap_nil]; exact nodup2 (by omega))); (case vz122 => rfl); intro h' o' F' N' hd' hf'); (try dsimp only at N')))
  k_with "eval Dict" => ((k_here; (with_reducible show wpAny _ _ (eval (Expr.Dict (_ :: _) _ _) _) _ _ _); k_dflt (refine' kdn_eval (knd := PySem.intKind _ _) ?Fz123 ?Nz123 ?bz123 ?az123 ?lz123 ?ez123 ?nz123 ?_; (case Fz123 => k_asm); (case Nz123 => first | k_asm | exact News.nil); (case bz123 => exact Top.nolimit (by k_asm)); (case az123 => rfl); (case lz123 => rfl); (case ez123 => exact List.cons_ne_nil _ _); (case nz123 => exact Nat.le_of_ble_eq_true rfl)); intro d' h' o' F' N' l1 lo' hd'; (try k_lt l1)))
  trivial
set_option maxHeartbeats 4000000 in
theorem segE {L₀ : Addr} {x y z : Int} {H S V : UInt64} {la lc lr lm tv : Addr} {t1 t2 t3 c1 c2 c3 c4 c5 c6 d1 d2 d3 d4 d5 d6 u1 u2 u3 : Tok} {m1 m2 m3 m4 m5 m6 : UInt64} {r1 r2 r3 r4 r5 r6 : Addr} {oM oU oLo oT oH oW oG : Obj} {oA : Obj} {cA : Addr} {ocA : Obj} {oB : Obj} {cB : Addr} {ocB : Obj}
   {params : Arguments} {body : List Stmt} {scope : Scope} {Qf : Flow → Shared → Prop} {Ef : Value → Shared → Prop} {lo hi : Int} {tlo thi : Tok} {p st ld bo k0 k1 : Int} {tp ts tld tbo ck0 ck1 : Tok}
   (hI : oneDef = some (params, body, scope)) (F : Fr h₀ L s.heap m) (X : (Mine.hd.heap_1 w.params).In h₀) (T : Top pg lz mean mg mb h₀)
   (C1 : CodeHd h₀ 55 51) (C2 : CodeHd h₀ 62 58) (hd : dp + 30 < recursionLimit) (hun : un + 1000 < cLine) (hTk : Tk True s.toks)
   (l' : @LT.lt Nat _ la L ∧ @LT.lt Nat _ lc L ∧ @LT.lt Nat _ lr L ∧ @LT.lt Nat _ lm L ∧ @LT.lt Nat _ 51 L ∧ @LT.lt Nat _ cA L ∧ @LT.lt Nat _ 58 L ∧ @LT.lt Nat _ cB L) (ltv : @LT.lt Nat _ (L + 1 + 1 + 1 + 1 + 1 + 1 + 1) tv)
   (N : News h₀ L s.heap [(L + 1 + 1 + 1 + 1 + 1 + 1 + 1, oM), (L + 1 + 1 + 1 + 1 + 1 + 1, oU), (L + 1 + 1 + 1 + 1 + 1, oLo), (L + 1 + 1 + 1 + 1, oT), (L + 1 + 1 + 1, oH), (L + 1 + 1, oW), (L + 1, oG), (tv, tupO [.float H u1, .float S u2, .float V u3]), (la, lstO [.int x t1, .int y t2, .int z t3]), (lc, lstO [.int 4 c1, .int 6 c2, .int 2 c3, .int 3 c4, .int 1 c5, .int 5 c6]), (lr, LCg.lst [.ref r1, .ref r2, .ref r3, .ref r4, .ref r5, .ref r6]), (lm, LCg.lst [.float m1 d1, .float m2 d2, .float m3 d3, .float m4 d4, .float m5 d5, .float m6 d6]), (51, oA), (cA, ocA), (58, oB), (cB, ocB)])
   (dT : oT.data = .cell (some (.ref tv))) (dH : oH.data = .cell (some (.int hi thi))) (dW : oW.data = .cell (some (.int lo tlo))) (dG : oG.data = .cell (some (.ref la))) (dM : oM.data = .cell (none)) (dU : oU.data = .cell (none)) (dLo : oLo.data = .cell (none))
   (hm1 : m "codes" = some (.ref lc)) (hm2 : m "ring" = some (.ref lr)) (hm3 : m "step" = some (.int st ts)) (hm4 : m "lead" = some (.int ld tld)) (hm5 : m "both" = some (.int bo tbo)) (hm6 : m "place" = some (.int p tp))
   (hp : 0 ≤ p ∧ p ≤ 5) (hpn : 0 ≤ (p + 1).fmod 6 ∧ (p + 1).fmod 6 ≤ 5) (hlo : 0 ≤ lo ∧ lo ≤ 12) (hhi : 0 ≤ hi ∧ hi ≤ 12) (hst : 0 ≤ st ∧ st ≤ 12) (hb : 0 ≤ k0 ∧ k0 ≤ 7 ∧ 0 ≤ k1 ∧ k1 ≤ 7)
   (hk0 : [Value.int 4 c1, .int 6 c2, .int 2 c3, .int 3 c4, .int 1 c5, .int 5 c6][p.toNat]? = some (.int k0 ck0))
   (hk1 : [Value.int 4 c1, .int 6 c2, .int 2 c3, .int 3 c4, .int 1 c5, .int 5 c6][((p + 1).fmod 6).toNat]? = some (.int k1 ck1))
   (hlb : (ld = k0 ∧ bo = k1) ∨ (ld = k1 ∧ bo = k0)) (hord : k0 < k1 ∨ k1 < k0)
   (hF : ∀ (m' : Str → Option Value) (h' : Heap) (tk' : Nat) (oU' oLo' : Obj) (na : Addr) (n1 n2 tl tu : Tok) (lw up : Int), Fr h₀ L h' m' → News h₀ L h' [(na, PySem.W.listOf #[.int k0 n1, .int k1 n2] 0), (L + 1 + 1 + 1 + 1 + 1 + 1 + 1, oM), (L + 1 + 1 + 1 + 1 + 1 + 1, oU'), (L + 1 + 1 + 1 + 1 + 1, oLo'), (L + 1 + 1 + 1 + 1, oT), (L + 1 + 1 + 1, oH), (L + 1 + 1, oW), (L + 1, oG), (tv, tupO [.float H u1, .float S u2, .float V u3]), (la, lstO [.int x t1, .int y t2, .int z t3]), (lc, lstO [.int 4 c1, .int 6 c2, .int 2 c3, .int 3 c4, .int 1 c5, .int 5 c6]), (lr, LCg.lst [.ref r1, .ref r2, .ref r3, .ref r4, .ref r5, .ref r6]), (lm, LCg.lst [.float m1 d1, .float m2 d2, .float m3 d3, .float m4 d4, .float m5 d5, .float m6 d6]), (51, oA), (cA, ocA), (58, oB), (cB, ocB)] → Tk True tk' → @LT.lt Nat _ (L + 1 + 1 + 1 + 1 + 1 + 1 + 1) na →
      oU'.data = .cell (some (.int up tu)) → oLo'.data = .cell (some (.int lw tl)) → ((ld = k0 ∧ lw = hi - st ∧ up = st - lo) ∨ (ld = k1 ∧ lw = st - lo ∧ up = hi - st)) → m' "names" = some (.ref na) → m' "ring" = some (.ref lr) → m' "place" = some (.int p tp) →
      wpAny (model PySem.Challenge.rw_ph0126_01.row.prog w) ((ktrTop dp un gd cn cs L₀ a ccd cl outer).deeper (oneEnv scope L)) (execs (body.drop 14) (oneEnv scope L)) Qf Ef { s with heap := h', toks := tk' })
   : wpAny (model PySem.Challenge.rw_ph0126_01.row.prog w) ((ktrTop dp un gd cn cs L₀ a ccd cl outer).deeper (oneEnv scope L)) (execs (body.drop 9) (oneEnv scope L)) Qf Ef s := by
  revert X; k_fill; intro X
  conv at hI => lhs; whnf
  injection hI with hI
  injection hI with e1 e2
  injection e2 with e2 e3
  subst e1 e2 e3
  dsimp only [List.drop]
  rcases hlb with ⟨rfl, rfl⟩ | ⟨rfl, rfl⟩
  · rcases hord with hord | hord
    · -- ld = k0, bo = k1, k0 < k1
      (try k_fold)
      k_steps
      refine mark ?_
      rename News _ _ _ _ => N1; rename Fr _ _ _ _ => F1
      rename Obj.IsDictOf (PySem.intKind _ _) _ [_, _] => hD0; rename ((_ == sysModules) = false) => lo'
      obtain ⟨tp, tq, hD⟩ : ∃ tp tq, Obj.IsDictOf (PySem.intKind PG w) _ [(ld, .int (hi - st) tp), (bo, .int (st - lo) tq)] := ⟨_, _, hD0⟩
      clear hD0
      refine sortL F1 N1 (by k_mem) (.cons _ _ (.cons _ _ .nil)) (List.Perm.refl _) hord ?_
      intro D t u h2 c2 F2 N2 l2
      clear F1 N1
      dsimp only
      k_lt l2
      k_steps
      refine mark ?_
      rename News _ _ _ _ => N1; rename Fr _ _ _ _ => F1
      refine sortD rfl F1 N1 (tab2 N1 (by k_mem) lo' hD) (.inl ⟨rfl, rfl⟩) hord ?_
      intro D t u h2 tk2 c2 F2 N2 l2
      clear F1 N1
      dsimp only
      k_lt l2
      k_steps
      refine mark ?_
      rename News _ _ _ _ => N1; rename Fr _ _ _ _ => F1
      refine neLs (lstAt2 N1 (by k_mem)) (lstAt2 N1 (by k_mem)) (by ktr_units) ?he ?_
      case he => exact ⟨eqI_at rfl, eqI_at rfl, trivial⟩
      k_steps
      refine mark ?_
      rename News _ _ _ _ => N1; rename Fr _ _ _ _ => F1
      refine itemD (v := hi - st) (tab2 N1 (by k_mem) lo' hD) ?lA ?_
      case lA => first | exact lookAt0 rfl | exact lookAt1 rfl (by omega)
      intro u
      dsimp only
      k_steps
      refine mark ?_
      rename News _ _ _ _ => N1; rename Fr _ _ _ _ => F1
      refine itemD (v := st - lo) (tab2 N1 (by k_mem) lo' hD) ?lB ?_
      case lB => first | exact lookAt0 rfl | exact lookAt1 rfl (by omega)
      intro u
      dsimp only
      k_steps
      refine mark ?_
      rename News _ _ _ _ => N1; rename Fr _ _ _ _ => F1
      refine hF _ _ _ _ _ _ _ _ _ _ _ _ F1 (fun p hp => N1 p (.tail _ (.tail _ (.tail _ hp)))) (by walk_at "mine tk") ?_ (by k_asm) (by k_asm) (.inl ⟨rfl, rfl, rfl⟩) rfl hm2 hm6
      omega
    · -- k1 < k0
      (try k_fold)
      k_steps
      refine mark ?_
      rename News _ _ _ _ => N1; rename Fr _ _ _ _ => F1
      rename Obj.IsDictOf (PySem.intKind _ _) _ [_, _] => hD0; rename ((_ == sysModules) = false) => lo'
      obtain ⟨tp, tq, hD⟩ : ∃ tp tq, Obj.IsDictOf (PySem.intKind PG w) _ [(ld, .int (hi - st) tp), (bo, .int (st - lo) tq)] := ⟨_, _, hD0⟩
      clear hD0
      refine sortL F1 N1 (by k_mem) (.cons _ _ (.cons _ _ .nil)) (List.Perm.swap ..) hord ?_
      intro D t u h2 c2 F2 N2 l2
      clear F1 N1
      dsimp only
      k_lt l2
      k_steps
      refine mark ?_
      rename News _ _ _ _ => N1; rename Fr _ _ _ _ => F1
      refine sortD rfl F1 N1 (tab2 N1 (by k_mem) lo' hD) (.inr ⟨rfl, rfl⟩) hord ?_
      intro D t u h2 tk2 c2 F2 N2 l2
      clear F1 N1
      dsimp only
      k_lt l2
      k_steps
      refine mark ?_
      rename News _ _ _ _ => N1; rename Fr _ _ _ _ => F1
      refine neLs (lstAt2 N1 (by k_mem)) (lstAt2 N1 (by k_mem)) (by ktr_units) ?he ?_
      case he => exact ⟨eqI_at rfl, eqI_at rfl, trivial⟩
      k_steps
      refine mark ?_
      rename News _ _ _ _ => N1; rename Fr _ _ _ _ => F1
      refine itemD (v := hi - st) (tab2 N1 (by k_mem) lo' hD) ?lA ?_
      case lA => first | exact lookAt0 rfl | exact lookAt1 rfl (by omega)
      intro u
      dsimp only
      k_steps
      refine mark ?_
      rename News _ _ _ _ => N1; rename Fr _ _ _ _ => F1
      refine itemD (v := st - lo) (tab2 N1 (by k_mem) lo' hD) ?lB ?_
      case lB => first | exact lookAt0 rfl | exact lookAt1 rfl (by omega)
      intro u
      dsimp only
      k_steps
      refine mark ?_
      rename News _ _ _ _ => N1; rename Fr _ _ _ _ => F1
      refine hF _ _ _ _ _ _ _ _ _ _ _ _ F1 (fun p hp => N1 p (.tail _ (.tail _ (.tail _ hp)))) (by walk_at "mine tk") ?_ (by k_asm) (by k_asm) (.inl ⟨rfl, rfl, rfl⟩) rfl hm2 hm6
      omega
  · rcases hord with hord | hord
    · -- ld = k1, bo = k0 : ledger of names [bo, ld]; parts ld, bo
      (try k_fold)
      k_steps
      refine mark ?_
      rename News _ _ _ _ => N1; rename Fr _ _ _ _ => F1
      rename Obj.IsDictOf (PySem.intKind _ _) _ [_, _] => hD0; rename ((_ == sysModules) = false) => lo'
      obtain ⟨tp, tq, hD⟩ : ∃ tp tq, Obj.IsDictOf (PySem.intKind PG w) _ [(ld, .int (hi - st) tp), (bo, .int (st - lo) tq)] := ⟨_, _, hD0⟩
      clear hD0
      refine sortL F1 N1 (by k_mem) (.cons _ _ (.cons _ _ .nil)) (List.Perm.refl _) hord ?_
      intro D t u h2 c2 F2 N2 l2
      clear F1 N1
      dsimp only
      k_lt l2
      k_steps
      refine mark ?_
      rename News _ _ _ _ => N1; rename Fr _ _ _ _ => F1
      refine sortD rfl F1 N1 (tab2 N1 (by k_mem) lo' hD) (.inr ⟨rfl, rfl⟩) hord ?_
      intro D t u h2 tk2 c2 F2 N2 l2
      clear F1 N1
      dsimp only
      k_lt l2
      k_steps
      refine mark ?_
      rename News _ _ _ _ => N1; rename Fr _ _ _ _ => F1
      refine neLs (lstAt2 N1 (by k_mem)) (lstAt2 N1 (by k_mem)) (by ktr_units) ?he ?_
      case he => exact ⟨eqI_at rfl, eqI_at rfl, trivial⟩
      k_steps
      refine mark ?_
      rename News _ _ _ _ => N1; rename Fr _ _ _ _ => F1
      refine itemD (v := st - lo) (tab2 N1 (by k_mem) lo' hD) ?lA ?_
      case lA => first | exact lookAt0 rfl | exact lookAt1 rfl (by omega)
      intro u
      dsimp only
      k_steps
      refine mark ?_
      rename News _ _ _ _ => N1; rename Fr _ _ _ _ => F1
      refine itemD (v := hi - st) (tab2 N1 (by k_mem) lo' hD) ?lB ?_
      case lB => first | exact lookAt0 rfl | exact lookAt1 rfl (by omega)
      intro u
      dsimp only
      k_steps
      refine mark ?_
      rename News _ _ _ _ => N1; rename Fr _ _ _ _ => F1
      refine hF _ _ _ _ _ _ _ _ _ _ _ _ F1 (fun p hp => N1 p (.tail _ (.tail _ (.tail _ hp)))) (by walk_at "mine tk") ?_ (by k_asm) (by k_asm) (.inr ⟨rfl, rfl, rfl⟩) rfl hm2 hm6
      omega
    · -- k1 < k0
      (try k_fold)
      k_steps
      refine mark ?_
      rename News _ _ _ _ => N1; rename Fr _ _ _ _ => F1
      rename Obj.IsDictOf (PySem.intKind _ _) _ [_, _] => hD0; rename ((_ == sysModules) = false) => lo'
      obtain ⟨tp, tq, hD⟩ : ∃ tp tq, Obj.IsDictOf (PySem.intKind PG w) _ [(ld, .int (hi - st) tp), (bo, .int (st - lo) tq)] := ⟨_, _, hD0⟩
      clear hD0
      refine sortL F1 N1 (by k_mem) (.cons _ _ (.cons _ _ .nil)) (List.Perm.swap ..) hord ?_
      intro D t u h2 c2 F2 N2 l2
      clear F1 N1
      dsimp only
      k_lt l2
      k_steps
      refine mark ?_
      rename News _ _ _ _ => N1; rename Fr _ _ _ _ => F1
      refine sortD rfl F1 N1 (tab2 N1 (by k_mem) lo' hD) (.inl ⟨rfl, rfl⟩) hord ?_
      intro D t u h2 tk2 c2 F2 N2 l2
      clear F1 N1
      dsimp only
      k_lt l2
      k_steps
      refine mark ?_
      rename News _ _ _ _ => N1; rename Fr _ _ _ _ => F1
      refine neLs (lstAt2 N1 (by k_mem)) (lstAt2 N1 (by k_mem)) (by ktr_units) ?he ?_
      case he => exact ⟨eqI_at rfl, eqI_at rfl, trivial⟩
      k_steps
      refine mark ?_
      rename News _ _ _ _ => N1; rename Fr _ _ _ _ => F1
      refine itemD (v := st - lo) (tab2 N1 (by k_mem) lo' hD) ?lA ?_
      case lA => first | exact lookAt0 rfl | exact lookAt1 rfl (by omega)
      intro u
      dsimp only
      k_steps
      refine mark ?_
      rename News _ _ _ _ => N1; rename Fr _ _ _ _ => F1
      refine itemD (v := hi - st) (tab2 N1 (by k_mem) lo' hD) ?lB ?_
      case lB => first | exact lookAt0 rfl | exact lookAt1 rfl (by omega)
      intro u
      dsimp only
      k_steps
      refine mark ?_
      rename News _ _ _ _ => N1; rename Fr _ _ _ _ => F1
      refine hF _ _ _ _ _ _ _ _ _ _ _ _ F1 (fun p hp => N1 p (.tail _ (.tail _ (.tail _ hp)))) (by walk_at "mine tk") ?_ (by k_asm) (by k_asm) (.inr ⟨rfl, rfl, rfl⟩) rfl hm2 hm6
      omega
end
end
/-! text Mf1 -/
section
theorem linesMf1x1 : True := by
  k_with_none
  k_with "mine enter" => ((refine' enter ?k2z124 ?k3z124 ?k4z124 ?k5z124 ?k6z124 ?k7z124 ?k8z124 ?k9z124 ?kBz124 ?_ ?c2z124 ?c3z124 ?c4z124 ?c5z124; (case k2z124 => k_asm); (case k3z124 => k_asm); (case k4z124 => k_asm); (case k5z124 => k_asm); (case k6z124 => k_is); (case k7z124 => k_is); (case k8z124 => ktr_room); (case k9z124 => exact BindsTo.of_eq rfl); (case c5z124 => decide); (case kBz124 => exact locs rfl); (case c2z124 => exact rfl); (case c3z124 => exact rfl); (case c4z124 => exact rfl); k_whole))
  k_with "mine keeps" => (((with_reducible rename Keeps _ _ _ => kK); (have F' := frAfter0 (by k_asm) kK); (have N' := newsAfter0 (by k_asm) kK); clear kK; (try k_sweep)))
  k_with "mine made" => (((with_reducible rename Keeps _ _ _ => kK); rename (Heap.get? _ _ = none) => kn; rename (Heap.get? _ _ = some _) => ks; (have l1 := allNe_of (by k_asm) kn); (have N' := newsIn (by k_asm) kn ks (newsAfter0 (by k_asm) kK)); (have F' := frAfter0 (by k_asm) kK); clear kK kn ks; (try k_sweep)))
  trivial
variable {pg : Program} {lz : List Str} {w : World} {mean : ExcName → Option Value} {mg mb : Str → Option Value}
   {dp un : Nat} {gd : Option (List Code)} {cn : Str} {cs : Scope} {a : Addr} {ccd : Value} {cl : List (Str × Addr)} {outer : List Env} {h₀ : Heap} {L : Addr} {m : Str → Option Value} {s : Shared} {Q E : Value → Shared → Prop}
theorem linesMf1x2 : True := by
  k_with "mine tk" => (((try dsimp only); first | with_reducible assumption | ((repeat (with_reducible refine Tk.add _ ?_)); with_reducible assumption) | exact Tk.succ | fail "mine: tk"))
  k_with "exec Assign" => (((fail_if_success (with_reducible show wpAny _ _ _ (UpQ _ _) _ _)); refine wpUp (by walk_at "mine tk") ?_))
  k_with "exec If" => (((fail_if_success (with_reducible show wpAny _ _ _ (UpQ _ _) _ _)); refine wpUp (by walk_at "mine tk") ?_))
  k_with "execs cons" => (((with_reducible show wpAny _ _ _ _ _ (Shared.mk _ _ _ (HAdd.hAdd _ _) _)); (refine genTk (by walk_at "mine tk") ?_); intro tk' hTk'; (try dsimp only)))
  k_with "UpQ" => ((refine UpQ.mk ?_; intro hTk'; (try dsimp only at hTk'); (try dsimp only)))
  k_with "loadName" => ((k_here; k_dflt (refine' ldnE ?k1z132 ?kLz132 ?k2z132 ?_; (case k1z132 => k_asm); (case kLz132 => exact rfl); (case k2z132 => first | exact rfl | assumption | fail "no"); k_whole)))
  k_with "eval Name" => ((k_here; k_dflt (refine' ldE ?k1z133 ?kLz133 ?k2z133 ?_; (case k1z133 => k_asm); (case kLz133 => exact rfl); (case k2z133 => first | exact rfl | assumption | fail "no"); k_whole)))
  k_with "mine eq1" => (first | exact eqI_at (by first | rfl | with_reducible assumption | omega) | exact eqF_at (by first | with_reducible assumption | exact Eq.symm (by with_reducible assumption)) (by walk_at "mine tk") (by walk_at "mine tk") (by exact noneBooked (by k_asm) (by k_asm) (by k_asm)) | exact eqS_at (by first | rfl | with_reducible assumption))
  k_with "mine eql" => (((try simp only [EqL, and_true]); (repeat' apply And.intro); all_goals walk_at "mine eq1"))
  k_with "compareOp Eq ref ref" => ((k_here; k_dflt (refine' eqT ?hlz136 ?hbz136 ?huz136 ?hez136 ?_; (case hlz136 => exact tupAt (by k_asm) (by k_mem)); (case hbz136 => exact tupAt (by k_asm) (by k_mem)); (case huz136 => ktr_units); (case hez136 => walk_at "mine eql"))))
  k_with "compareOp NotEq ref ref" => ((k_here; k_dflt (refine' neT ?hlz137 ?hbz137 ?huz137 ?hez137 ?_; (case hlz137 => exact tupAt (by k_asm) (by k_mem)); (case hbz137 => exact tupAt (by k_asm) (by k_mem)); (case huz137 => ktr_units); (case hez137 => walk_at "mine eql"))))
  k_with "subscriptTail Name Name ref int" => ((k_here; (with_reducible show wpAny _ _ (subscriptTail _ _ (Value.ref _) (Value.int _ _)) _ _ _); k_dflt (refine' itemAt ?Nz138 ?mz138 ?xz138 ?_ ?sz138; (case Nz138 => k_asm); (case mz138 => k_mem); (case xz138 => exact ⟨by omega, by omega, by with_reducible assumption⟩); (case sz138 => with_unfolding_all rfl))))
  k_with "subscriptTail Name BinOp ref int" => ((k_here; (with_reducible show wpAny _ _ (subscriptTail _ _ (Value.ref _) (Value.int _ _)) _ _ _); k_dflt (refine' itemAt ?Nz139 ?mz139 ?xz139 ?_ ?sz139; (case Nz139 => k_asm); (case mz139 => k_mem); (case xz139 => exact ⟨by omega, by omega, by with_reducible assumption⟩); (case sz139 => with_unfolding_all rfl))))
  k_with "exec Assign cons Dict" => (((fail_if_success (with_reducible show wpAny _ _ _ (UpQ _ _) _ _)); refine wpUp (by walk_at "mine tk") ?_))
  k_with "exec Assign cons ListComp" => (((fail_if_success (with_reducible show wpAny _ _ _ (UpQ _ _) _ _)); refine wpUp (by walk_at "mine tk") ?_))
  k_with "exec Assign cons Call" => (((fail_if_success (with_reducible show wpAny _ _ _ (UpQ _ _) _ _)); refine wpUp (by walk_at "mine tk") ?_))
  k_with "exec Assign cons" => (((fail_if_success (with_reducible show wpAny _ _ _ (UpQ _ _) _ _)); refine wpUp (by walk_at "mine tk") ?_))
  trivial
noncomputable def gI (lw up : Int) : Int := (Int.gcd lw up : Int)
noncomputable def filtG (lw up : Int) (l : List Int) (k : Int) : List Int := if lw.fmod k = 0 ∧ up.fmod k = 0 then l ++ [k] else l
theorem filtG_grows (lw up : Int) : KPfGrows (filtG lw up) := fun l k => by unfold filtG; split <;> simp
theorem meas_tab : ∀ a : Nat, a < 12 → ∀ b : Nat, b < 12 → (((rangeKs 1 12).foldl (filtG ((a + 1 : Nat) : Int) ((b + 1 : Nat) : Int)) []).contains (gI ((a + 1 : Nat) : Int) ((b + 1 : Nat) : Int)) && ((rangeKs 1 12).foldl (filtG ((a + 1 : Nat) : Int) ((b + 1 : Nat) : Int)) []).all (fun k => decide (k ≤ gI ((a + 1 : Nat) : Int) ((b + 1 : Nat) : Int)))) = true := by decide +kernel
theorem meas_ne {lw up : Int} (h1 : 1 ≤ lw ∧ lw ≤ 12) (h2 : 1 ≤ up ∧ up ≤ 12) : 0 < ((rangeKs 1 12).foldl (filtG lw up) []).length := by
  obtain ⟨a, rfl⟩ : ∃ a : Nat, lw = ((a + 1 : Nat) : Int) := ⟨(lw - 1).toNat, by omega⟩
  obtain ⟨b, rfl⟩ : ∃ b : Nat, up = ((b + 1 : Nat) : Int) := ⟨(up - 1).toNat, by omega⟩
  have t := meas_tab a (by omega) b (by omega)
  rw [Bool.and_eq_true, List.contains_iff_mem] at t
  exact List.length_pos_of_mem t.1
theorem meas_eq {lw up M : Int} (h1 : 1 ≤ lw ∧ lw ≤ 12) (h2 : 1 ≤ up ∧ up ≤ 12) (q1 : M ∈ (rangeKs 1 12).foldl (filtG lw up) []) (q2 : ∀ a, a ∈ (rangeKs 1 12).foldl (filtG lw up) [] → a ≤ M) : M = gI lw up := by
  obtain ⟨a, rfl⟩ : ∃ a : Nat, lw = ((a + 1 : Nat) : Int) := ⟨(lw - 1).toNat, by omega⟩
  obtain ⟨b, rfl⟩ : ∃ b : Nat, up = ((b + 1 : Nat) : Int) := ⟨(up - 1).toNat, by omega⟩
  have t := meas_tab a (by omega) b (by omega)
  rw [Bool.and_eq_true, List.contains_iff_mem, List.all_eq_true] at t
  have u1 := q2 _ t.1
  have u2 := of_decide_eq_true (t.2 _ q1)
  omega
theorem iteT {A B : Prop} (h : A) : if true = true then A else B := h
theorem iteF {A B : Prop} (h : B) : if false = true then A else B := h
section
theorem linesMf1x3 : True := by
  k_with "CompEnd" => (refine ofMark ?_)
  k_with "ite" => (first | (with_reducible refine iteT ?_) | (with_reducible refine iteF ?_) | fail "no")
  k_with "truthy bool" => (refine wpAny_truthy_bool ?_)
  k_with "binaryOp Mod int int" => ((refine mod_int' (by omega) ?_; dsimp only))
  k_with "compareOp Eq int int" => (refine ofMark ?_)
  k_with "CompSrcT" => (refine ofMark ?_)
  k_with "execs cons" => (((with_reducible show wpAny _ _ (execs (Stmt.Assign [Expr.Tuple _ _ _] _ _ :: _) _) _ _ _); refine ofMark ?_))
  trivial
set_option maxHeartbeats 4000000 in
theorem segF {L₀ : Addr} {x y z : Int} {H S V : UInt64} {la lc lr lm tv : Addr} {t1 t2 t3 c1 c2 c3 c4 c5 c6 d1 d2 d3 d4 d5 d6 u1 u2 u3 : Tok} {m1 m2 m3 m4 m5 m6 : UInt64} {r1 r2 r3 r4 r5 r6 : Addr} {oM oU oLo oT oH oW oG : Obj} {oA : Obj} {cA : Addr} {ocA : Obj} {oB : Obj} {cB : Addr} {ocB : Obj}
   {params : Arguments} {body : List Stmt} {scope : Scope} {Qf : Flow → Shared → Prop} {Ef : Value → Shared → Prop} {lo hi : Int} {tlo thi : Tok} {k0 k1 lw up : Int} {n1 n2 tl tu : Tok} {na : Addr}
   (hI : oneDef = some (params, body, scope)) (F : Fr h₀ L s.heap m) (X : (Mine.hd.heap_1 w.params).In h₀) (T : Top pg lz mean mg mb h₀)
   (C1 : CodeHd h₀ 55 51) (C2 : CodeHd h₀ 62 58) (hd : dp + 30 < recursionLimit) (hun : un + 1000 < cLine) (hTk : Tk True s.toks)
   (l' : @LT.lt Nat _ la L ∧ @LT.lt Nat _ lc L ∧ @LT.lt Nat _ lr L ∧ @LT.lt Nat _ lm L ∧ @LT.lt Nat _ 51 L ∧ @LT.lt Nat _ cA L ∧ @LT.lt Nat _ 58 L ∧ @LT.lt Nat _ cB L) (ltv : @LT.lt Nat _ (L + 1 + 1 + 1 + 1 + 1 + 1 + 1) tv)
   (N : News h₀ L s.heap [(na, PySem.W.listOf #[.int k0 n1, .int k1 n2] 0), (L + 1 + 1 + 1 + 1 + 1 + 1 + 1, oM), (L + 1 + 1 + 1 + 1 + 1 + 1, oU), (L + 1 + 1 + 1 + 1 + 1, oLo), (L + 1 + 1 + 1 + 1, oT), (L + 1 + 1 + 1, oH), (L + 1 + 1, oW), (L + 1, oG), (tv, tupO [.float H u1, .float S u2, .float V u3]), (la, lstO [.int x t1, .int y t2, .int z t3]), (lc, lstO [.int 4 c1, .int 6 c2, .int 2 c3, .int 3 c4, .int 1 c5, .int 5 c6]), (lr, LCg.lst [.ref r1, .ref r2, .ref r3, .ref r4, .ref r5, .ref r6]), (lm, LCg.lst [.float m1 d1, .float m2 d2, .float m3 d3, .float m4 d4, .float m5 d5, .float m6 d6]), (51, oA), (cA, ocA), (58, oB), (cB, ocB)])
   (dM : oM.data = .cell (none)) (dU : oU.data = .cell (some (.int up tu))) (dLo : oLo.data = .cell (some (.int lw tl)))
   (hlw : 1 ≤ lw ∧ lw ≤ 12) (hup : 1 ≤ up ∧ up ≤ 12) (lna : @LT.lt Nat _ (L + 1 + 1 + 1 + 1 + 1 + 1 + 1) na)
   (hF : ∀ (h' : Heap) (tk' : Nat) (oM' : Obj) (tm : Tok), Fr h₀ L h' m → News h₀ L h' [(na, PySem.W.listOf #[.int k0 n1, .int k1 n2] 0), (L + 1 + 1 + 1 + 1 + 1 + 1 + 1, oM'), (L + 1 + 1 + 1 + 1 + 1 + 1, oU), (L + 1 + 1 + 1 + 1 + 1, oLo), (L + 1 + 1 + 1 + 1, oT), (L + 1 + 1 + 1, oH), (L + 1 + 1, oW), (L + 1, oG), (tv, tupO [.float H u1, .float S u2, .float V u3]), (la, lstO [.int x t1, .int y t2, .int z t3]), (lc, lstO [.int 4 c1, .int 6 c2, .int 2 c3, .int 3 c4, .int 1 c5, .int 5 c6]), (lr, LCg.lst [.ref r1, .ref r2, .ref r3, .ref r4, .ref r5, .ref r6]), (lm, LCg.lst [.float m1 d1, .float m2 d2, .float m3 d3, .float m4 d4, .float m5 d5, .float m6 d6]), (51, oA), (cA, ocA), (58, oB), (cB, ocB)] → Tk True tk' → oM'.data = .cell (some (.int (gI lw up) tm)) →
      wpAny (model PySem.Challenge.rw_ph0126_01.row.prog w) ((ktrTop dp un gd cn cs L₀ a ccd cl outer).deeper (oneEnv scope L)) (execs (body.drop 15) (oneEnv scope L)) Qf Ef { s with heap := h', toks := tk' })
   : wpAny (model PySem.Challenge.rw_ph0126_01.row.prog w) ((ktrTop dp un gd cn cs L₀ a ccd cl outer).deeper (oneEnv scope L)) (execs (body.drop 14) (oneEnv scope L)) Qf Ef s := by
  revert X; k_fill; intro X
  conv at hI => lhs; whnf
  injection hI with hI
  injection hI with e1 e2
  injection e2 with e2 e3
  subst e1 e2 e3
  dsimp only [List.drop]
  (try k_fold)
  k_steps
  refine mark ?_
  rename News _ _ _ _ => N1; rename Fr _ _ _ _ => F1
  refine LCt.CompSrcT.range (n := 12) rfl F1 N1 (by assumption) (by decide) rfl (Nat.le_of_ble_eq_true rfl) ?_
  intro g
  refine kci_range (filtG lw up) ?turn ?fin (filtG_grows lw up)
  case turn =>
    intro k t I oI C oC D m₂ ys l h tk E' hlo hhi hI hC hx F' N' off ne mk
    clear F1 N1
    (try dsimp only)
    k_steps
    refine mark ?_
    refine eq_int ?_
    by_cases q1 : lw.fmod k = 0
    · rw [beq_iff_eq.mpr q1]
      k_steps
      refine mark ?_
      refine eq_int ?_
      by_cases q2 : up.fmod k = 0
      · rw [beq_iff_eq.mpr q2]
        k_steps
        refine mark ?_
        exact ⟨_, _, _, rfl, F', N', off, trivial, rfl, k, t, rfl, by simp [filtG, q1, q2]⟩
      · rw [beq_eq_false_iff_ne.mpr q2]
        k_steps
        refine mark ?_
        exact ⟨_, _, _, rfl, F', N', off, trivial, rfl, by simp [filtG, q2]⟩
    · rw [beq_eq_false_iff_ne.mpr q1]
      k_steps
      refine mark ?_
      exact ⟨_, _, _, rfl, F', N', off, trivial, rfl, by simp [filtG, q1]⟩
  case fin =>
    intro ys hys hlen
    clear F1 N1
    unfold LCg.FinE
    intro D h2 tk2 F2 N2 o2
    simp only [LCg.Off1, and_true] at o2
    have o22 := o2.2.1
    clear o2
    (try dsimp only)
    k_steps
    refine kso_max F2 N2 ⟨_, (N2 _ (.head _)).1, rfl, _, rfl⟩ hys (meas_ne hlw hup) rfl ?_
    intro h3 M t tk3 F3 N3 q1 q2
    clear F2 N2
    have e := meas_eq hlw hup q1 q2
    dsimp only
    k_steps
    refine mark ?_
    rename News _ _ _ _ => N1; rename Fr _ _ _ _ => F1
    subst e
    exact hF _ _ _ _ F1 (fun p hp => N1 p (.tail _ hp)) (by walk_at "mine tk") (by k_asm)
end
end
/-! text Mb1 -/
section
theorem linesMb1x1 : True := by
  k_with_none
  k_with "mine enter" => ((refine' enter ?k2z151 ?k3z151 ?k4z151 ?k5z151 ?k6z151 ?k7z151 ?k8z151 ?k9z151 ?kBz151 ?_ ?c2z151 ?c3z151 ?c4z151 ?c5z151; (case k2z151 => k_asm); (case k3z151 => k_asm); (case k4z151 => k_asm); (case k5z151 => k_asm); (case k6z151 => k_is); (case k7z151 => k_is); (case k8z151 => ktr_room); (case k9z151 => exact BindsTo.of_eq rfl); (case c5z151 => decide); (case kBz151 => exact locs rfl); (case c2z151 => exact rfl); (case c3z151 => exact rfl); (case c4z151 => exact rfl); k_whole))
  k_with "mine keeps" => (((with_reducible rename Keeps _ _ _ => kK); (have F' := frAfter0 (by k_asm) kK); (have N' := newsAfter0 (by k_asm) kK); clear kK; (try k_sweep)))
  k_with "mine made" => (((with_reducible rename Keeps _ _ _ => kK); rename (Heap.get? _ _ = none) => kn; rename (Heap.get? _ _ = some _) => ks; (have l1 := allNe_of (by k_asm) kn); (have N' := newsIn (by k_asm) kn ks (newsAfter0 (by k_asm) kK)); (have F' := frAfter0 (by k_asm) kK); clear kK kn ks; (try k_sweep)))
  trivial
variable {pg : Program} {lz : List Str} {w : World} {mean : ExcName → Option Value} {mg mb : Str → Option Value}
   {dp un : Nat} {gd : Option (List Code)} {cn : Str} {cs : Scope} {a : Addr} {ccd : Value} {cl : List (Str × Addr)} {outer : List Env} {h₀ : Heap} {L : Addr} {m : Str → Option Value} {s : Shared} {Q E : Value → Shared → Prop}
theorem linesMb1x2 : True := by
  k_with "mine tk" => (((try dsimp only); first | with_reducible assumption | ((repeat (with_reducible refine Tk.add _ ?_)); with_reducible assumption) | exact Tk.succ | fail "mine: tk"))
  k_with "exec Assign" => (((fail_if_success (with_reducible show wpAny _ _ _ (UpQ _ _) _ _)); refine wpUp (by walk_at "mine tk") ?_))
  k_with "exec If" => (((fail_if_success (with_reducible show wpAny _ _ _ (UpQ _ _) _ _)); refine wpUp (by walk_at "mine tk") ?_))
  k_with "execs cons" => (((with_reducible show wpAny _ _ _ _ _ (Shared.mk _ _ _ (HAdd.hAdd _ _) _)); (refine genTk (by walk_at "mine tk") ?_); intro tk' hTk'; (try dsimp only)))
  k_with "UpQ" => ((refine UpQ.mk ?_; intro hTk'; (try dsimp only at hTk'); (try dsimp only)))
  k_with "loadName" => ((k_here; k_dflt (refine' ldnE ?k1z159 ?kLz159 ?k2z159 ?_; (case k1z159 => k_asm); (case kLz159 => exact rfl); (case k2z159 => first | exact rfl | assumption | fail "no"); k_whole)))
  k_with "eval Name" => ((k_here; k_dflt (refine' ldE ?k1z160 ?kLz160 ?k2z160 ?_; (case k1z160 => k_asm); (case kLz160 => exact rfl); (case k2z160 => first | exact rfl | assumption | fail "no"); k_whole)))
  k_with "mine eq1" => (first | exact eqI_at (by first | rfl | with_reducible assumption | omega) | exact eqF_at (by first | with_reducible assumption | exact Eq.symm (by with_reducible assumption)) (by walk_at "mine tk") (by walk_at "mine tk") (by exact noneBooked (by k_asm) (by k_asm) (by k_asm)) | exact eqS_at (by first | rfl | with_reducible assumption))
  k_with "mine eql" => (((try simp only [EqL, and_true]); (repeat' apply And.intro); all_goals walk_at "mine eq1"))
  k_with "compareOp Eq ref ref" => ((k_here; k_dflt (refine' eqT ?hlz163 ?hbz163 ?huz163 ?hez163 ?_; (case hlz163 => exact tupAt (by k_asm) (by k_mem)); (case hbz163 => exact tupAt (by k_asm) (by k_mem)); (case huz163 => ktr_units); (case hez163 => walk_at "mine eql"))))
  k_with "compareOp NotEq ref ref" => ((k_here; k_dflt (refine' neT ?hlz164 ?hbz164 ?huz164 ?hez164 ?_; (case hlz164 => exact tupAt (by k_asm) (by k_mem)); (case hbz164 => exact tupAt (by k_asm) (by k_mem)); (case huz164 => ktr_units); (case hez164 => walk_at "mine eql"))))
  k_with "subscriptTail Name Name ref int" => ((k_here; (with_reducible show wpAny _ _ (subscriptTail _ _ (Value.ref _) (Value.int _ _)) _ _ _); k_dflt (refine' itemAt ?Nz165 ?mz165 ?xz165 ?_ ?sz165; (case Nz165 => k_asm); (case mz165 => k_mem); (case xz165 => exact ⟨by omega, by omega, by with_reducible assumption⟩); (case sz165 => with_unfolding_all rfl))))
  k_with "subscriptTail Name BinOp ref int" => ((k_here; (with_reducible show wpAny _ _ (subscriptTail _ _ (Value.ref _) (Value.int _ _)) _ _ _); k_dflt (refine' itemAt ?Nz166 ?mz166 ?xz166 ?_ ?sz166; (case Nz166 => k_asm); (case mz166 => k_mem); (case xz166 => exact ⟨by omega, by omega, by with_reducible assumption⟩); (case sz166 => with_unfolding_all rfl))))
  k_with "exec Assign cons Dict" => (((fail_if_success (with_reducible show wpAny _ _ _ (UpQ _ _) _ _)); refine wpUp (by walk_at "mine tk") ?_))
  k_with "exec Assign cons ListComp" => (((fail_if_success (with_reducible show wpAny _ _ _ (UpQ _ _) _ _)); refine wpUp (by walk_at "mine tk") ?_))
  k_with "exec Assign cons Call" => (((fail_if_success (with_reducible show wpAny _ _ _ (UpQ _ _) _ _)); refine wpUp (by walk_at "mine tk") ?_))
  k_with "exec Assign cons" => (((fail_if_success (with_reducible show wpAny _ _ _ (UpQ _ _) _ _)); refine wpUp (by walk_at "mine tk") ?_))
  trivial
noncomputable def lvI (x y z k : Int) : Int := if k = 0 then x else if k = 1 then y else z
noncomputable def wtI (k : Int) : Int := if k = 0 then 4 else if k = 1 then 2 else 1
noncomputable def leadG (x y z hi : Int) (l : List Int) (k : Int) : List Int := if lvI x y z k = hi then l ++ [wtI k] else l
noncomputable def bothG (x y z lo : Int) (l : List Int) (k : Int) : List Int := if lo < lvI x y z k then l ++ [wtI k] else l
theorem leadG_grows (x y z hi : Int) : KPfGrows (leadG x y z hi) := fun l k => by unfold leadG; split <;> simp
theorem bothG_grows (x y z lo : Int) : KPfGrows (bothG x y z lo) := fun l k => by unfold bothG; split <;> simp
noncomputable def leadI (x y z hi : Int) : Int := ((rangeKs 0 3).foldl (leadG x y z hi) []).sum
noncomputable def bothI (x y z lo : Int) : Int := ((rangeKs 0 3).foldl (bothG x y z lo) []).sum
section
variable {prog : Program} {A : Around}
theorem eqi_t {a b : Int} {t u : Tok} (e : a = b) (h : Q (.bool true) s) : wpAny (model prog w) A (compareOp .Eq (.int a t) (.int b u)) Q E s := eq_int (by rw [beq_iff_eq.mpr e]; exact h)
theorem eqi_f {a b : Int} {t u : Tok} (e : ¬ a = b) (h : Q (.bool false) s) : wpAny (model prog w) A (compareOp .Eq (.int a t) (.int b u)) Q E s := eq_int (by rw [beq_eq_false_iff_ne.mpr e]; exact h)
theorem gti_t {a b : Int} {t u : Tok} (e : b < a) (h : Q (.bool true) s) : wpAny (model prog w) A (compareOp .Gt (.int a t) (.int b u)) Q E s := gt_int (by rw [decide_eq_true e]; exact h)
theorem gti_f {a b : Int} {t u : Tok} (e : ¬ b < a) (h : Q (.bool false) s) : wpAny (model prog w) A (compareOp .Gt (.int a t) (.int b u)) Q E s := gt_int (by rw [decide_eq_false e]; exact h)
end
section
theorem linesMb1x3 : True := by
  k_with "CompSrcT" => (refine ofMark ?_)
  k_with "CompEnd" => (refine ofMark ?_)
  k_with "ite" => (first | (with_reducible refine iteT ?_) | (with_reducible refine iteF ?_) | fail "no")
  k_with "truthy bool" => (refine wpAny_truthy_bool ?_)
  k_with "compareOp Eq int int" => (refine ofMark ?_)
  k_with "compareOp Gt int int" => (refine ofMark ?_)
  trivial
section
theorem linesMb1x4 : True := by
  k_with "execs cons" => (((with_reducible show wpAny _ _ (execs (Stmt.Assign [Expr.Name (Str.ofString "both") _] _ _ :: _) _) _ _ _); refine ofMark ?_))
  trivial
set_option maxHeartbeats 4000000 in
theorem segB {L₀ : Addr} {x y z : Int} {H S V : UInt64} {la lc lr lm tv : Addr} {t1 t2 t3 c1 c2 c3 c4 c5 c6 d1 d2 d3 d4 d5 d6 u1 u2 u3 : Tok} {m1 m2 m3 m4 m5 m6 : UInt64} {r1 r2 r3 r4 r5 r6 : Addr} {oM oU oLo oT oH oW oG : Obj} {oA : Obj} {cA : Addr} {ocA : Obj} {oB : Obj} {cB : Addr} {ocB : Obj}
   {params : Arguments} {body : List Stmt} {scope : Scope} {Qf : Flow → Shared → Prop} {Ef : Value → Shared → Prop} {lo hi : Int} {tlo thi : Tok} {st : Int} {ts : Tok}
   (hI : oneDef = some (params, body, scope)) (F : Fr h₀ L s.heap m) (X : (Mine.hd.heap_1 w.params).In h₀) (T : Top pg lz mean mg mb h₀)
   (C1 : CodeHd h₀ 55 51) (C2 : CodeHd h₀ 62 58) (hd : dp + 30 < recursionLimit) (hun : un + 1000 < cLine) (hTk : Tk True s.toks)
   (l' : @LT.lt Nat _ la L ∧ @LT.lt Nat _ lc L ∧ @LT.lt Nat _ lr L ∧ @LT.lt Nat _ lm L ∧ @LT.lt Nat _ 51 L ∧ @LT.lt Nat _ cA L ∧ @LT.lt Nat _ 58 L ∧ @LT.lt Nat _ cB L) (ltv : @LT.lt Nat _ (L + 1 + 1 + 1 + 1 + 1 + 1 + 1) tv)
   (N : News h₀ L s.heap [(L + 1 + 1 + 1 + 1 + 1 + 1 + 1, oM), (L + 1 + 1 + 1 + 1 + 1 + 1, oU), (L + 1 + 1 + 1 + 1 + 1, oLo), (L + 1 + 1 + 1 + 1, oT), (L + 1 + 1 + 1, oH), (L + 1 + 1, oW), (L + 1, oG), (tv, tupO [.float H u1, .float S u2, .float V u3]), (la, lstO [.int x t1, .int y t2, .int z t3]), (lc, lstO [.int 4 c1, .int 6 c2, .int 2 c3, .int 3 c4, .int 1 c5, .int 5 c6]), (lr, LCg.lst [.ref r1, .ref r2, .ref r3, .ref r4, .ref r5, .ref r6]), (lm, LCg.lst [.float m1 d1, .float m2 d2, .float m3 d3, .float m4 d4, .float m5 d5, .float m6 d6]), (51, oA), (cA, ocA), (58, oB), (cB, ocB)])
   (dT : oT.data = .cell (some (.ref tv))) (dH : oH.data = .cell (some (.int hi thi))) (dW : oW.data = .cell (some (.int lo tlo))) (dG : oG.data = .cell (some (.ref la)))
   (hm1 : m "codes" = some (.ref lc)) (hm2 : m "ring" = some (.ref lr)) (hm3 : m "step" = some (.int st ts)) (hm9 : m "marks" = some (.ref lm))
   (hx : 0 ≤ x ∧ x ≤ 12 ∧ 0 ≤ y ∧ y ≤ 12 ∧ 0 ≤ z ∧ z ≤ 12) (hlo : 0 ≤ lo ∧ lo ≤ 12) (hhi : 0 ≤ hi ∧ hi ≤ 12)
   (hF : ∀ (m' : Str → Option Value) (h' : Heap) (tk' : Nat) (tl : Tok), Fr h₀ L h' m' → News h₀ L h' [(L + 1 + 1 + 1 + 1 + 1 + 1 + 1, oM), (L + 1 + 1 + 1 + 1 + 1 + 1, oU), (L + 1 + 1 + 1 + 1 + 1, oLo), (L + 1 + 1 + 1 + 1, oT), (L + 1 + 1 + 1, oH), (L + 1 + 1, oW), (L + 1, oG), (tv, tupO [.float H u1, .float S u2, .float V u3]), (la, lstO [.int x t1, .int y t2, .int z t3]), (lc, lstO [.int 4 c1, .int 6 c2, .int 2 c3, .int 3 c4, .int 1 c5, .int 5 c6]), (lr, LCg.lst [.ref r1, .ref r2, .ref r3, .ref r4, .ref r5, .ref r6]), (lm, LCg.lst [.float m1 d1, .float m2 d2, .float m3 d3, .float m4 d4, .float m5 d5, .float m6 d6]), (51, oA), (cA, ocA), (58, oB), (cB, ocB)] → Tk True tk' → m' "codes" = some (.ref lc) → m' "ring" = some (.ref lr) → m' "step" = some (.int st ts) → m' "marks" = some (.ref lm) → m' "lead" = some (.int (leadI x y z hi) tl) →
      wpAny (model PySem.Challenge.rw_ph0126_01.row.prog w) ((ktrTop dp un gd cn cs L₀ a ccd cl outer).deeper (oneEnv scope L)) (execs (body.drop 6) (oneEnv scope L)) Qf Ef { s with heap := h', toks := tk' })
   : wpAny (model PySem.Challenge.rw_ph0126_01.row.prog w) ((ktrTop dp un gd cn cs L₀ a ccd cl outer).deeper (oneEnv scope L)) (execs (body.drop 5) (oneEnv scope L)) Qf Ef s := by
  revert X; k_fill; intro X
  conv at hI => lhs; whnf
  injection hI with hI
  injection hI with e1 e2
  injection e2 with e2 e3
  subst e1 e2 e3
  dsimp only [List.drop]
  (try k_fold)
  k_steps
  refine mark ?_
  rename News _ _ _ _ => N1; rename Fr _ _ _ _ => F1
  refine LCt.CompSrcT.range (n := 3) rfl F1 N1 (by assumption) (by decide) rfl (Nat.le_of_ble_eq_true rfl) ?_
  intro g
  refine kci_range (leadG x y z hi) ?turn ?fin (leadG_grows x y z hi)
  case turn =>
    intro k t I oI C oC D m₂ ys l h tk E' hlo' hhi' hI hC hm F' N' off ne mk
    clear F1 N1
    (try dsimp only)
    obtain rfl | rfl | rfl : k = 0 ∨ k = 1 ∨ k = 2 := by omega
    · k_steps
      refine mark ?_
      by_cases q1 : x = hi
      · refine eqi_t q1 ?_
        k_steps
        refine mark ?_
        rename News _ _ _ _ => N1; rename Fr _ _ _ _ => F1
        exact ⟨_, _, _, rfl, F1, (fun p hp => N1 p (.tail _ hp)), off, trivial, rfl, 4, _, rfl, by simp [leadG, lvI, wtI, q1]⟩
      · refine eqi_f q1 ?_
        k_steps
        refine mark ?_
        exact ⟨_, _, _, rfl, F', N', off, trivial, rfl, by simp [leadG, lvI, q1]⟩
    · k_steps
      refine mark ?_
      by_cases q1 : y = hi
      · refine eqi_t q1 ?_
        k_steps
        refine mark ?_
        rename News _ _ _ _ => N1; rename Fr _ _ _ _ => F1
        exact ⟨_, _, _, rfl, F1, (fun p hp => N1 p (.tail _ hp)), off, trivial, rfl, 2, _, rfl, by simp [leadG, lvI, wtI, q1]⟩
      · refine eqi_f q1 ?_
        k_steps
        refine mark ?_
        exact ⟨_, _, _, rfl, F', N', off, trivial, rfl, by simp [leadG, lvI, q1]⟩
    · k_steps
      refine mark ?_
      by_cases q1 : z = hi
      · refine eqi_t q1 ?_
        k_steps
        refine mark ?_
        rename News _ _ _ _ => N1; rename Fr _ _ _ _ => F1
        exact ⟨_, _, _, rfl, F1, (fun p hp => N1 p (.tail _ hp)), off, trivial, rfl, 1, _, rfl, by simp [leadG, lvI, wtI, q1]⟩
      · refine eqi_f q1 ?_
        k_steps
        refine mark ?_
        exact ⟨_, _, _, rfl, F', N', off, trivial, rfl, by simp [leadG, lvI, q1]⟩
  case fin =>
    intro ys hys hlen
    clear F1 N1
    unfold LCg.FinE
    intro D h2 tk2 F2 N2 o2
    simp only [LCg.Off1, and_true] at o2
    (try dsimp only)
    k_steps
    refine mark ?_
    rename News _ _ _ _ => N1; rename Fr _ _ _ _ => F1
    exact hF _ _ _ _ F1 (fun p hp => N1 p (.tail _ hp)) (by walk_at "mine tk") hm1 hm2 hm3 hm9 rfl
end
end
end
/-! text Mc1 -/
section
theorem linesMc1x1 : True := by
  k_with_none
  k_with "mine enter" => ((refine' enter ?k2z178 ?k3z178 ?k4z178 ?k5z178 ?k6z178 ?k7z178 ?k8z178 ?k9z178 ?kBz178 ?_ ?c2z178 ?c3z178 ?c4z178 ?c5z178; (case k2z178 => k_asm); (case k3z178 => k_asm); (case k4z178 => k_asm); (case k5z178 => k_asm); (case k6z178 => k_is); (case k7z178 => k_is); (case k8z178 => ktr_room); (case k9z178 => exact BindsTo.of_eq rfl); (case c5z178 => decide); (case kBz178 => exact locs rfl); (case c2z178 => exact rfl); (case c3z178 => exact rfl); (case c4z178 => exact rfl); k_whole))
  k_with "mine keeps" => (((with_reducible rename Keeps _ _ _ => kK); (have F' := frAfter0 (by k_asm) kK); (have N' := newsAfter0 (by k_asm) kK); clear kK; (try k_sweep)))
  k_with "mine made" => (((with_reducible rename Keeps _ _ _ => kK); rename (Heap.get? _ _ = none) => kn; rename (Heap.get? _ _ = some _) => ks; (have l1 := allNe_of (by k_asm) kn); (have N' := newsIn (by k_asm) kn ks (newsAfter0 (by k_asm) kK)); (have F' := frAfter0 (by k_asm) kK); clear kK kn ks; (try k_sweep)))
  trivial
variable {pg : Program} {lz : List Str} {w : World} {mean : ExcName → Option Value} {mg mb : Str → Option Value}
   {dp un : Nat} {gd : Option (List Code)} {cn : Str} {cs : Scope} {a : Addr} {ccd : Value} {cl : List (Str × Addr)} {outer : List Env} {h₀ : Heap} {L : Addr} {m : Str → Option Value} {s : Shared} {Q E : Value → Shared → Prop}
theorem linesMc1x2 : True := by
  k_with "mine tk" => (((try dsimp only); first | with_reducible assumption | ((repeat (with_reducible refine Tk.add _ ?_)); with_reducible assumption) | exact Tk.succ | fail "mine: tk"))
  k_with "exec Assign" => (((fail_if_success (with_reducible show wpAny _ _ _ (UpQ _ _) _ _)); refine wpUp (by walk_at "mine tk") ?_))
  k_with "exec If" => (((fail_if_success (with_reducible show wpAny _ _ _ (UpQ _ _) _ _)); refine wpUp (by walk_at "mine tk") ?_))
  k_with "execs cons" => (((with_reducible show wpAny _ _ _ _ _ (Shared.mk _ _ _ (HAdd.hAdd _ _) _)); (refine genTk (by walk_at "mine tk") ?_); intro tk' hTk'; (try dsimp only)))
  k_with "UpQ" => ((refine UpQ.mk ?_; intro hTk'; (try dsimp only at hTk'); (try dsimp only)))
  k_with "loadName" => ((k_here; k_dflt (refine' ldnE ?k1z186 ?kLz186 ?k2z186 ?_; (case k1z186 => k_asm); (case kLz186 => exact rfl); (case k2z186 => first | exact rfl | assumption | fail "no"); k_whole)))
  k_with "eval Name" => ((k_here; k_dflt (refine' ldE ?k1z187 ?kLz187 ?k2z187 ?_; (case k1z187 => k_asm); (case kLz187 => exact rfl); (case k2z187 => first | exact rfl | assumption | fail "no"); k_whole)))
  k_with "mine eq1" => (first | exact eqI_at (by first | rfl | with_reducible assumption | omega) | exact eqF_at (by first | with_reducible assumption | exact Eq.symm (by with_reducible assumption)) (by walk_at "mine tk") (by walk_at "mine tk") (by exact noneBooked (by k_asm) (by k_asm) (by k_asm)) | exact eqS_at (by first | rfl | with_reducible assumption))
  k_with "mine eql" => (((try simp only [EqL, and_true]); (repeat' apply And.intro); all_goals walk_at "mine eq1"))
  k_with "compareOp Eq ref ref" => ((k_here; k_dflt (refine' eqT ?hlz190 ?hbz190 ?huz190 ?hez190 ?_; (case hlz190 => exact tupAt (by k_asm) (by k_mem)); (case hbz190 => exact tupAt (by k_asm) (by k_mem)); (case huz190 => ktr_units); (case hez190 => walk_at "mine eql"))))
  k_with "compareOp NotEq ref ref" => ((k_here; k_dflt (refine' neT ?hlz191 ?hbz191 ?huz191 ?hez191 ?_; (case hlz191 => exact tupAt (by k_asm) (by k_mem)); (case hbz191 => exact tupAt (by k_asm) (by k_mem)); (case huz191 => ktr_units); (case hez191 => walk_at "mine eql"))))
  k_with "subscriptTail Name Name ref int" => ((k_here; (with_reducible show wpAny _ _ (subscriptTail _ _ (Value.ref _) (Value.int _ _)) _ _ _); k_dflt (refine' itemAt ?Nz192 ?mz192 ?xz192 ?_ ?sz192; (case Nz192 => k_asm); (case mz192 => k_mem); (case xz192 => exact ⟨by omega, by omega, by with_reducible assumption⟩); (case sz192 => with_unfolding_all rfl))))
  k_with "subscriptTail Name BinOp ref int" => ((k_here; (with_reducible show wpAny _ _ (subscriptTail _ _ (Value.ref _) (Value.int _ _)) _ _ _); k_dflt (refine' itemAt ?Nz193 ?mz193 ?xz193 ?_ ?sz193; (case Nz193 => k_asm); (case mz193 => k_mem); (case xz193 => exact ⟨by omega, by omega, by with_reducible assumption⟩); (case sz193 => with_unfolding_all rfl))))
  k_with "exec Assign cons Dict" => (((fail_if_success (with_reducible show wpAny _ _ _ (UpQ _ _) _ _)); refine wpUp (by walk_at "mine tk") ?_))
  k_with "exec Assign cons ListComp" => (((fail_if_success (with_reducible show wpAny _ _ _ (UpQ _ _) _ _)); refine wpUp (by walk_at "mine tk") ?_))
  k_with "exec Assign cons Call" => (((fail_if_success (with_reducible show wpAny _ _ _ (UpQ _ _) _ _)); refine wpUp (by walk_at "mine tk") ?_))
  k_with "exec Assign cons" => (((fail_if_success (with_reducible show wpAny _ _ _ (UpQ _ _) _ _)); refine wpUp (by walk_at "mine tk") ?_))
  trivial
section
theorem linesMc1x3 : True := by
  k_with "CompSrcT" => (refine ofMark ?_)
  k_with "CompEnd" => (refine ofMark ?_)
  k_with "ite" => (first | (with_reducible refine iteT ?_) | (with_reducible refine iteF ?_) | fail "no")
  k_with "truthy bool" => (refine wpAny_truthy_bool ?_)
  k_with "compareOp Eq int int" => (refine ofMark ?_)
  k_with "compareOp Gt int int" => (refine ofMark ?_)
  trivial
section
theorem linesMc1x4 : True := by
  k_with "execs cons" => (((with_reducible show wpAny _ _ (execs (Stmt.Assign [Expr.Name (Str.ofString "place") _] _ _ :: _) _) _ _ _); refine ofMark ?_))
  trivial
set_option maxHeartbeats 4000000 in
theorem segC {L₀ : Addr} {x y z : Int} {H S V : UInt64} {la lc lr lm tv : Addr} {t1 t2 t3 c1 c2 c3 c4 c5 c6 d1 d2 d3 d4 d5 d6 u1 u2 u3 : Tok} {m1 m2 m3 m4 m5 m6 : UInt64} {r1 r2 r3 r4 r5 r6 : Addr} {oM oU oLo oT oH oW oG : Obj} {oA : Obj} {cA : Addr} {ocA : Obj} {oB : Obj} {cB : Addr} {ocB : Obj}
   {params : Arguments} {body : List Stmt} {scope : Scope} {Qf : Flow → Shared → Prop} {Ef : Value → Shared → Prop} {lo hi : Int} {tlo thi : Tok} {st : Int} {ts : Tok} {ld : Int} {tld : Tok}
   (hI : oneDef = some (params, body, scope)) (F : Fr h₀ L s.heap m) (X : (Mine.hd.heap_1 w.params).In h₀) (T : Top pg lz mean mg mb h₀)
   (C1 : CodeHd h₀ 55 51) (C2 : CodeHd h₀ 62 58) (hd : dp + 30 < recursionLimit) (hun : un + 1000 < cLine) (hTk : Tk True s.toks)
   (l' : @LT.lt Nat _ la L ∧ @LT.lt Nat _ lc L ∧ @LT.lt Nat _ lr L ∧ @LT.lt Nat _ lm L ∧ @LT.lt Nat _ 51 L ∧ @LT.lt Nat _ cA L ∧ @LT.lt Nat _ 58 L ∧ @LT.lt Nat _ cB L) (ltv : @LT.lt Nat _ (L + 1 + 1 + 1 + 1 + 1 + 1 + 1) tv)
   (N : News h₀ L s.heap [(L + 1 + 1 + 1 + 1 + 1 + 1 + 1, oM), (L + 1 + 1 + 1 + 1 + 1 + 1, oU), (L + 1 + 1 + 1 + 1 + 1, oLo), (L + 1 + 1 + 1 + 1, oT), (L + 1 + 1 + 1, oH), (L + 1 + 1, oW), (L + 1, oG), (tv, tupO [.float H u1, .float S u2, .float V u3]), (la, lstO [.int x t1, .int y t2, .int z t3]), (lc, lstO [.int 4 c1, .int 6 c2, .int 2 c3, .int 3 c4, .int 1 c5, .int 5 c6]), (lr, LCg.lst [.ref r1, .ref r2, .ref r3, .ref r4, .ref r5, .ref r6]), (lm, LCg.lst [.float m1 d1, .float m2 d2, .float m3 d3, .float m4 d4, .float m5 d5, .float m6 d6]), (51, oA), (cA, ocA), (58, oB), (cB, ocB)])
   (dT : oT.data = .cell (some (.ref tv))) (dH : oH.data = .cell (some (.int hi thi))) (dW : oW.data = .cell (some (.int lo tlo))) (dG : oG.data = .cell (some (.ref la)))
   (hm1 : m "codes" = some (.ref lc)) (hm2 : m "ring" = some (.ref lr)) (hm3 : m "step" = some (.int st ts)) (hm9 : m "marks" = some (.ref lm)) (hm4 : m "lead" = some (.int ld tld))
   (hx : 0 ≤ x ∧ x ≤ 12 ∧ 0 ≤ y ∧ y ≤ 12 ∧ 0 ≤ z ∧ z ≤ 12) (hlo : 0 ≤ lo ∧ lo ≤ 12) (hhi : 0 ≤ hi ∧ hi ≤ 12)
   (hF : ∀ (m' : Str → Option Value) (h' : Heap) (tk' : Nat) (tl : Tok), Fr h₀ L h' m' → News h₀ L h' [(L + 1 + 1 + 1 + 1 + 1 + 1 + 1, oM), (L + 1 + 1 + 1 + 1 + 1 + 1, oU), (L + 1 + 1 + 1 + 1 + 1, oLo), (L + 1 + 1 + 1 + 1, oT), (L + 1 + 1 + 1, oH), (L + 1 + 1, oW), (L + 1, oG), (tv, tupO [.float H u1, .float S u2, .float V u3]), (la, lstO [.int x t1, .int y t2, .int z t3]), (lc, lstO [.int 4 c1, .int 6 c2, .int 2 c3, .int 3 c4, .int 1 c5, .int 5 c6]), (lr, LCg.lst [.ref r1, .ref r2, .ref r3, .ref r4, .ref r5, .ref r6]), (lm, LCg.lst [.float m1 d1, .float m2 d2, .float m3 d3, .float m4 d4, .float m5 d5, .float m6 d6]), (51, oA), (cA, ocA), (58, oB), (cB, ocB)] → Tk True tk' → m' "codes" = some (.ref lc) → m' "ring" = some (.ref lr) → m' "step" = some (.int st ts) → m' "marks" = some (.ref lm) → m' "lead" = some (.int ld tld) → m' "both" = some (.int (bothI x y z lo) tl) →
      wpAny (model PySem.Challenge.rw_ph0126_01.row.prog w) ((ktrTop dp un gd cn cs L₀ a ccd cl outer).deeper (oneEnv scope L)) (execs (body.drop 7) (oneEnv scope L)) Qf Ef { s with heap := h', toks := tk' })
   : wpAny (model PySem.Challenge.rw_ph0126_01.row.prog w) ((ktrTop dp un gd cn cs L₀ a ccd cl outer).deeper (oneEnv scope L)) (execs (body.drop 6) (oneEnv scope L)) Qf Ef s := by
  revert X; k_fill; intro X
  conv at hI => lhs; whnf
  injection hI with hI
  injection hI with e1 e2
  injection e2 with e2 e3
  subst e1 e2 e3
  dsimp only [List.drop]
  (try k_fold)
  k_steps
  refine mark ?_
  rename News _ _ _ _ => N1; rename Fr _ _ _ _ => F1
  refine LCt.CompSrcT.range (n := 3) rfl F1 N1 (by assumption) (by decide) rfl (Nat.le_of_ble_eq_true rfl) ?_
  intro g
  refine kci_range (bothG x y z lo) ?turn ?fin (bothG_grows x y z lo)
  case turn =>
    intro k t I oI C oC D m₂ ys l h tk E' hlo' hhi' hI hC hm F' N' off ne mk
    clear F1 N1
    (try dsimp only)
    obtain rfl | rfl | rfl : k = 0 ∨ k = 1 ∨ k = 2 := by omega
    · k_steps
      refine mark ?_
      by_cases q1 : lo < x
      · refine gti_t q1 ?_
        k_steps
        refine mark ?_
        rename News _ _ _ _ => N1; rename Fr _ _ _ _ => F1
        exact ⟨_, _, _, rfl, F1, (fun p hp => N1 p (.tail _ hp)), off, trivial, rfl, 4, _, rfl, by simp [bothG, lvI, wtI, q1]⟩
      · refine gti_f q1 ?_
        k_steps
        refine mark ?_
        exact ⟨_, _, _, rfl, F', N', off, trivial, rfl, by simp [bothG, lvI, q1]⟩
    · k_steps
      refine mark ?_
      by_cases q1 : lo < y
      · refine gti_t q1 ?_
        k_steps
        refine mark ?_
        rename News _ _ _ _ => N1; rename Fr _ _ _ _ => F1
        exact ⟨_, _, _, rfl, F1, (fun p hp => N1 p (.tail _ hp)), off, trivial, rfl, 2, _, rfl, by simp [bothG, lvI, wtI, q1]⟩
      · refine gti_f q1 ?_
        k_steps
        refine mark ?_
        exact ⟨_, _, _, rfl, F', N', off, trivial, rfl, by simp [bothG, lvI, q1]⟩
    · k_steps
      refine mark ?_
      by_cases q1 : lo < z
      · refine gti_t q1 ?_
        k_steps
        refine mark ?_
        rename News _ _ _ _ => N1; rename Fr _ _ _ _ => F1
        exact ⟨_, _, _, rfl, F1, (fun p hp => N1 p (.tail _ hp)), off, trivial, rfl, 1, _, rfl, by simp [bothG, lvI, wtI, q1]⟩
      · refine gti_f q1 ?_
        k_steps
        refine mark ?_
        exact ⟨_, _, _, rfl, F', N', off, trivial, rfl, by simp [bothG, lvI, q1]⟩
  case fin =>
    intro ys hys hlen
    clear F1 N1
    unfold LCg.FinE
    intro D h2 tk2 F2 N2 o2
    simp only [LCg.Off1, and_true] at o2
    (try dsimp only)
    k_steps
    refine mark ?_
    rename News _ _ _ _ => N1; rename Fr _ _ _ _ => F1
    exact hF _ _ _ _ F1 (fun p hp => N1 p (.tail _ hp)) (by walk_at "mine tk") hm1 hm2 hm3 hm9 hm4 rfl
end
end
end
/-! text Md1 -/
section
theorem linesMd1x1 : True := by
  k_with_none
  k_with "mine enter" => ((refine' enter ?k2z205 ?k3z205 ?k4z205 ?k5z205 ?k6z205 ?k7z205 ?k8z205 ?k9z205 ?kBz205 ?_ ?c2z205 ?c3z205 ?c4z205 ?c5z205; (case k2z205 => k_asm); (case k3z205 => k_asm); (case k4z205 => k_asm); (case k5z205 => k_asm); (case k6z205 => k_is); (case k7z205 => k_is); (case k8z205 => ktr_room); (case k9z205 => exact BindsTo.of_eq rfl); (case c5z205 => decide); (case kBz205 => exact locs rfl); (case c2z205 => exact rfl); (case c3z205 => exact rfl); (case c4z205 => exact rfl); k_whole))
  k_with "mine keeps" => (((with_reducible rename Keeps _ _ _ => kK); (have F' := frAfter0 (by k_asm) kK); (have N' := newsAfter0 (by k_asm) kK); clear kK; (try k_sweep)))
  k_with "mine made" => (((with_reducible rename Keeps _ _ _ => kK); rename (Heap.get? _ _ = none) => kn; rename (Heap.get? _ _ = some _) => ks; (have l1 := allNe_of (by k_asm) kn); (have N' := newsIn (by k_asm) kn ks (newsAfter0 (by k_asm) kK)); (have F' := frAfter0 (by k_asm) kK); clear kK kn ks; (try k_sweep)))
  trivial
variable {pg : Program} {lz : List Str} {w : World} {mean : ExcName → Option Value} {mg mb : Str → Option Value}
   {dp un : Nat} {gd : Option (List Code)} {cn : Str} {cs : Scope} {a : Addr} {ccd : Value} {cl : List (Str × Addr)} {outer : List Env} {h₀ : Heap} {L : Addr} {m : Str → Option Value} {s : Shared} {Q E : Value → Shared → Prop}
theorem linesMd1x2 : True := by
  k_with "mine tk" => (((try dsimp only); first | with_reducible assumption | ((repeat (with_reducible refine Tk.add _ ?_)); with_reducible assumption) | exact Tk.succ | fail "mine: tk"))
  k_with "exec Assign" => (((fail_if_success (with_reducible show wpAny _ _ _ (UpQ _ _) _ _)); refine wpUp (by walk_at "mine tk") ?_))
  k_with "exec If" => (((fail_if_success (with_reducible show wpAny _ _ _ (UpQ _ _) _ _)); refine wpUp (by walk_at "mine tk") ?_))
  k_with "execs cons" => (((with_reducible show wpAny _ _ _ _ _ (Shared.mk _ _ _ (HAdd.hAdd _ _) _)); (refine genTk (by walk_at "mine tk") ?_); intro tk' hTk'; (try dsimp only)))
  k_with "UpQ" => ((refine UpQ.mk ?_; intro hTk'; (try dsimp only at hTk'); (try dsimp only)))
  k_with "loadName" => ((k_here; k_dflt (refine' ldnE ?k1z213 ?kLz213 ?k2z213 ?_; (case k1z213 => k_asm); (case kLz213 => exact rfl); (case k2z213 => first | exact rfl | assumption | fail "no"); k_whole)))
  k_with "eval Name" => ((k_here; k_dflt (refine' ldE ?k1z214 ?kLz214 ?k2z214 ?_; (case k1z214 => k_asm); (case kLz214 => exact rfl); (case k2z214 => first | exact rfl | assumption | fail "no"); k_whole)))
  k_with "mine eq1" => (first | exact eqI_at (by first | rfl | with_reducible assumption | omega) | exact eqF_at (by first | with_reducible assumption | exact Eq.symm (by with_reducible assumption)) (by walk_at "mine tk") (by walk_at "mine tk") (by exact noneBooked (by k_asm) (by k_asm) (by k_asm)) | exact eqS_at (by first | rfl | with_reducible assumption))
  k_with "mine eql" => (((try simp only [EqL, and_true]); (repeat' apply And.intro); all_goals walk_at "mine eq1"))
  k_with "compareOp Eq ref ref" => ((k_here; k_dflt (refine' eqT ?hlz217 ?hbz217 ?huz217 ?hez217 ?_; (case hlz217 => exact tupAt (by k_asm) (by k_mem)); (case hbz217 => exact tupAt (by k_asm) (by k_mem)); (case huz217 => ktr_units); (case hez217 => walk_at "mine eql"))))
  k_with "compareOp NotEq ref ref" => ((k_here; k_dflt (refine' neT ?hlz218 ?hbz218 ?huz218 ?hez218 ?_; (case hlz218 => exact tupAt (by k_asm) (by k_mem)); (case hbz218 => exact tupAt (by k_asm) (by k_mem)); (case huz218 => ktr_units); (case hez218 => walk_at "mine eql"))))
  k_with "subscriptTail Name Name ref int" => ((k_here; (with_reducible show wpAny _ _ (subscriptTail _ _ (Value.ref _) (Value.int _ _)) _ _ _); k_dflt (refine' itemAt ?Nz219 ?mz219 ?xz219 ?_ ?sz219; (case Nz219 => k_asm); (case mz219 => k_mem); (case xz219 => exact ⟨by omega, by omega, by with_reducible assumption⟩); (case sz219 => with_unfolding_all rfl))))
  k_with "subscriptTail Name BinOp ref int" => ((k_here; (with_reducible show wpAny _ _ (subscriptTail _ _ (Value.ref _) (Value.int _ _)) _ _ _); k_dflt (refine' itemAt ?Nz220 ?mz220 ?xz220 ?_ ?sz220; (case Nz220 => k_asm); (case mz220 => k_mem); (case xz220 => exact ⟨by omega, by omega, by with_reducible assumption⟩); (case sz220 => with_unfolding_all rfl))))
  k_with "exec Assign cons Dict" => (((fail_if_success (with_reducible show wpAny _ _ _ (UpQ _ _) _ _)); refine wpUp (by walk_at "mine tk") ?_))
  k_with "exec Assign cons ListComp" => (((fail_if_success (with_reducible show wpAny _ _ _ (UpQ _ _) _ _)); refine wpUp (by walk_at "mine tk") ?_))
  k_with "exec Assign cons Call" => (((fail_if_success (with_reducible show wpAny _ _ _ (UpQ _ _) _ _)); refine wpUp (by walk_at "mine tk") ?_))
  k_with "exec Assign cons" => (((fail_if_success (with_reducible show wpAny _ _ _ (UpQ _ _) _ _)); refine wpUp (by walk_at "mine tk") ?_))
  trivial
noncomputable def leF (a b : UInt64) : Bool := Float64.cmp a b == some Ordering.lt || Float64.cmp a b == some Ordering.eq
section
open LCt LCg
variable {prog : Program} {A : Around} {env : Env} {ct : PySem.Expr} {x : Str} {px : Pos} {scope : Scope} {cl : List (Str × Addr)} {S : List (Addr × Obj) → Prop} {P : Nat → Value → Prop} {Fin : List Value → List (Addr × Obj) → Prop} {news : List (Addr × Obj)}
/-- a comprehension that picks by a test -/
theorem restPick {n : Nat} (c : Nat → Bool) (hS : S news)
    (turn : ∀ i v I oI C oC D m₂ ys h tk (E' : Value → Shared → Prop), P i v → NsObj oC m₂ → m₂ x = some v → Fr h₀ L h m → News h₀ L h ((I, oI) :: (C, oC) :: (D, lst ys) :: news) →
      wpAny (model prog w) A (isTrue ct (compEnvC scope cl C env) (eval ct (compEnvC scope cl C env))) (fun b s' => b = c i ∧ ∃ tk', s' = { s with heap := h, toks := tk' }) E' { s with heap := h, toks := tk })
    (hk : ∀ C, (compEnvC scope cl C env).scope.kind = .function) (hl : ∀ C, (compEnvC scope cl C env).kindOf x = some .local) (hd : (x == ("__debug__" : Str)) = false)
    (fin : ∀ ys : List Value, ys.length = ((List.range n).filter c).length → Fin ys news) : CompRestT prog w A h₀ L m env ct (.Name x px) x scope cl s S P Fin n 0 [] news := by
  have key : ∀ (j i : Nat) (ys : List Value), i + j = n → ys.length = ((List.range i).filter c).length → CompRestT prog w A h₀ L m env ct (.Name x px) x scope cl s S P Fin j i ys news := by
    intro j
    induction j with
    | zero =>
      intro i ys hi hy
      have e : i = n := by omega
      subst e
      exact CompRestT.zero (fin ys hy)
    | succ j ih =>
      intro i ys hi hy
      refine CompRestT.succ ?_
      intro v I oI C oC D m₂ h tk E' hv hC hx F N off ne
      have hr : List.range (i + 1) = List.range i ++ [i] := List.range_succ
      refine wpAny_mono (turn i v I oI C oC D m₂ ys h tk E' hv hC hx F N) (fun b s₂ hq => ?_) fun _ _ e => e
      obtain ⟨hb, tk', rfl⟩ := hq
      subst hb
      cases hc : c i with
      | true =>
        simp only [if_true]
        refine ldVarK (hC.ns (N _ (.tail _ (.head _))).1) hx ?_ (hk C) (hl C) hd
        refine ⟨h, tk', news, rfl, F, N, off, hS, ih (i + 1) _ (by omega) ?_⟩
        rw [hr, List.filter_append, List.length_append, List.length_append, hy]
        simp [hc]
      | false =>
        simp only [Bool.false_eq_true, if_false]
        refine ⟨h, tk', news, rfl, F, N, off, hS, ih (i + 1) _ (by omega) ?_⟩
        rw [hr, List.filter_append, List.length_append, hy]
        simp [hc]
  exact key n 0 [] (by omega) rfl
end
noncomputable def markN (m1 m2 m3 m4 m5 m6 H : UInt64) : Nat := ((List.range 6).filter (fun i => leF ([m1, m2, m3, m4, m5, m6].getD i 0) H)).length
section
theorem linesMd1x3 : True := by
  k_with "CompSrcT" => (refine ofMark ?_)
  k_with "compareOp LtE float float" => (refine AutoFloatOps.le_0 ?_)
  k_with "truthy bool" => (refine wpAny_truthy_bool ?_)
  k_with "execs cons" => (((with_reducible show wpAny _ _ (execs (Stmt.If _ _ _ _ :: _) _) _ _ _); refine ofMark ?_))
  trivial
set_option maxHeartbeats 4000000 in
theorem segD {L₀ : Addr} {x y z : Int} {H S V : UInt64} {la lc lr lm tv : Addr} {t1 t2 t3 c1 c2 c3 c4 c5 c6 d1 d2 d3 d4 d5 d6 u1 u2 u3 : Tok} {m1 m2 m3 m4 m5 m6 : UInt64} {r1 r2 r3 r4 r5 r6 : Addr} {oM oU oLo oT oH oW oG : Obj} {oA : Obj} {cA : Addr} {ocA : Obj} {oB : Obj} {cB : Addr} {ocB : Obj}
   {params : Arguments} {body : List Stmt} {scope : Scope} {Qf : Flow → Shared → Prop} {Ef : Value → Shared → Prop} {lo hi : Int} {tlo thi : Tok} {st ld bo : Int} {ts tld tbo : Tok}
   (hI : oneDef = some (params, body, scope)) (F : Fr h₀ L s.heap m) (X : (Mine.hd.heap_1 w.params).In h₀) (T : Top pg lz mean mg mb h₀)
   (C1 : CodeHd h₀ 55 51) (C2 : CodeHd h₀ 62 58) (hd : dp + 30 < recursionLimit) (hun : un + 1000 < cLine) (hTk : Tk True s.toks)
   (l' : @LT.lt Nat _ la L ∧ @LT.lt Nat _ lc L ∧ @LT.lt Nat _ lr L ∧ @LT.lt Nat _ lm L ∧ @LT.lt Nat _ 51 L ∧ @LT.lt Nat _ cA L ∧ @LT.lt Nat _ 58 L ∧ @LT.lt Nat _ cB L) (ltv : @LT.lt Nat _ (L + 1 + 1 + 1 + 1 + 1 + 1 + 1) tv)
   (N : News h₀ L s.heap [(L + 1 + 1 + 1 + 1 + 1 + 1 + 1, oM), (L + 1 + 1 + 1 + 1 + 1 + 1, oU), (L + 1 + 1 + 1 + 1 + 1, oLo), (L + 1 + 1 + 1 + 1, oT), (L + 1 + 1 + 1, oH), (L + 1 + 1, oW), (L + 1, oG), (tv, tupO [.float H u1, .float S u2, .float V u3]), (la, lstO [.int x t1, .int y t2, .int z t3]), (lc, lstO [.int 4 c1, .int 6 c2, .int 2 c3, .int 3 c4, .int 1 c5, .int 5 c6]), (lr, LCg.lst [.ref r1, .ref r2, .ref r3, .ref r4, .ref r5, .ref r6]), (lm, LCg.lst [.float m1 d1, .float m2 d2, .float m3 d3, .float m4 d4, .float m5 d5, .float m6 d6]), (51, oA), (cA, ocA), (58, oB), (cB, ocB)])
   (dT : oT.data = .cell (some (.ref tv))) (dH : oH.data = .cell (some (.int hi thi))) (dW : oW.data = .cell (some (.int lo tlo))) (dG : oG.data = .cell (some (.ref la)))
   (hm1 : m "codes" = some (.ref lc)) (hm2 : m "ring" = some (.ref lr)) (hm3 : m "step" = some (.int st ts)) (hm9 : m "marks" = some (.ref lm)) (hm4 : m "lead" = some (.int ld tld)) (hm5 : m "both" = some (.int bo tbo))
   (hF : ∀ (m' : Str → Option Value) (h' : Heap) (tk' : Nat) (tp : Tok), Fr h₀ L h' m' → News h₀ L h' [(L + 1 + 1 + 1 + 1 + 1 + 1 + 1, oM), (L + 1 + 1 + 1 + 1 + 1 + 1, oU), (L + 1 + 1 + 1 + 1 + 1, oLo), (L + 1 + 1 + 1 + 1, oT), (L + 1 + 1 + 1, oH), (L + 1 + 1, oW), (L + 1, oG), (tv, tupO [.float H u1, .float S u2, .float V u3]), (la, lstO [.int x t1, .int y t2, .int z t3]), (lc, lstO [.int 4 c1, .int 6 c2, .int 2 c3, .int 3 c4, .int 1 c5, .int 5 c6]), (lr, LCg.lst [.ref r1, .ref r2, .ref r3, .ref r4, .ref r5, .ref r6]), (lm, LCg.lst [.float m1 d1, .float m2 d2, .float m3 d3, .float m4 d4, .float m5 d5, .float m6 d6]), (51, oA), (cA, ocA), (58, oB), (cB, ocB)] → Tk True tk' → m' "codes" = some (.ref lc) → m' "ring" = some (.ref lr) → m' "step" = some (.int st ts) → m' "marks" = some (.ref lm) → m' "lead" = some (.int ld tld) → m' "both" = some (.int bo tbo) → m' "place" = some (.int ((markN m1 m2 m3 m4 m5 m6 H : Int) - 1) tp) →
      wpAny (model PySem.Challenge.rw_ph0126_01.row.prog w) ((ktrTop dp un gd cn cs L₀ a ccd cl outer).deeper (oneEnv scope L)) (execs (body.drop 8) (oneEnv scope L)) Qf Ef { s with heap := h', toks := tk' })
   : wpAny (model PySem.Challenge.rw_ph0126_01.row.prog w) ((ktrTop dp un gd cn cs L₀ a ccd cl outer).deeper (oneEnv scope L)) (execs (body.drop 7) (oneEnv scope L)) Qf Ef s := by
  revert X; k_fill; intro X
  conv at hI => lhs; whnf
  injection hI with hI
  injection hI with e1 e2
  injection e2 with e2 e3
  subst e1 e2 e3
  dsimp only [List.drop]
  (try k_fold)
  k_steps
  refine mark ?_
  rename News _ _ _ _ => N1; rename Fr _ _ _ _ => F1
  refine LCt.CompSrcT.ledger rfl F1 N1 (ax := lm) (its := #[.float m1 d1, .float m2 d2, .float m3 d3, .float m4 d4, .float m5 d5, .float m6 d6]) (by k_mem) (Nat.le_of_ble_eq_true rfl) ?_
  intro g
  refine restPick (n := 6) (fun i => leF ([m1, m2, m3, m4, m5, m6].getD i 0) H) (.inr ⟨_, by k_mem, rfl, _, rfl⟩) ?turn (fun _ => rfl) (fun _ => rfl) (by decide) ?fin
  case turn =>
    intro i v I oI C oC D m₂ ys h tk E' hv hC hm F' N'
    clear F1 N1
    have e : ∃ dd, v = .float ([m1, m2, m3, m4, m5, m6].getD i 0) dd := by
      match i, hv with
      | 0, hv => exact ⟨_, (Option.some.inj hv).symm⟩
      | 1, hv => exact ⟨_, (Option.some.inj hv).symm⟩
      | 2, hv => exact ⟨_, (Option.some.inj hv).symm⟩
      | 3, hv => exact ⟨_, (Option.some.inj hv).symm⟩
      | 4, hv => exact ⟨_, (Option.some.inj hv).symm⟩
      | 5, hv => exact ⟨_, (Option.some.inj hv).symm⟩
      | n + 6, hv => exact nomatch hv
    obtain ⟨dd, rfl⟩ := e
    clear hv
    generalize [m1, m2, m3, m4, m5, m6].getD i 0 = mm at hm ⊢
    (try dsimp only)
    k_steps
  case fin =>
    intro ys hlen
    clear F1 N1
    unfold LCg.FinE
    intro D h2 tk2 F2 N2 o2
    simp only [LCg.Off1, and_true] at o2
    (try dsimp only)
    k_steps
    have hle : ((List.range 6).filter (fun i => leF ([m1, m2, m3, m4, m5, m6].getD i 0) H)).length ≤ 6 := List.length_filter_le _ _
    refine len_list (items := ys.toArray) ⟨_, (N2 _ (.head _)).1, rfl, _, rfl⟩ (by rw [List.size_toArray, hlen]; omega) ?_
    rw [List.size_toArray, hlen]
    dsimp only
    k_steps
    refine mark ?_
    rename News _ _ _ _ => N1; rename Fr _ _ _ _ => F1
    exact hF _ _ _ _ F1 (fun p hp => N1 p (.tail _ hp)) (by walk_at "mine tk") hm1 hm2 hm3 hm9 hm4 hm5 rfl
end
end
/-! text Md2 -/
section
theorem linesMd2x1 : True := by
  k_with_none
  k_with "mine enter" => ((refine' enter ?k2z229 ?k3z229 ?k4z229 ?k5z229 ?k6z229 ?k7z229 ?k8z229 ?k9z229 ?kBz229 ?_ ?c2z229 ?c3z229 ?c4z229 ?c5z229; (case k2z229 => k_asm); (case k3z229 => k_asm); (case k4z229 => k_asm); (case k5z229 => k_asm); (case k6z229 => k_is); (case k7z229 => k_is); (case k8z229 => ktr_room); (case k9z229 => exact BindsTo.of_eq rfl); (case c5z229 => decide); (case kBz229 => exact locs rfl); (case c2z229 => exact rfl); (case c3z229 => exact rfl); (case c4z229 => exact rfl); k_whole))
  k_with "mine keeps" => (((with_reducible rename Keeps _ _ _ => kK); (have F' := frAfter0 (by k_asm) kK); (have N' := newsAfter0 (by k_asm) kK); clear kK; (try k_sweep)))
  k_with "mine made" => (((with_reducible rename Keeps _ _ _ => kK); rename (Heap.get? _ _ = none) => kn; rename (Heap.get? _ _ = some _) => ks; (have l1 := allNe_of (by k_asm) kn); (have N' := newsIn (by k_asm) kn ks (newsAfter0 (by k_asm) kK)); (have F' := frAfter0 (by k_asm) kK); clear kK kn ks; (try k_sweep)))
  trivial
variable {pg : Program} {lz : List Str} {w : World} {mean : ExcName → Option Value} {mg mb : Str → Option Value}
   {dp un : Nat} {gd : Option (List Code)} {cn : Str} {cs : Scope} {a : Addr} {ccd : Value} {cl : List (Str × Addr)} {outer : List Env} {h₀ : Heap} {L : Addr} {m : Str → Option Value} {s : Shared} {Q E : Value → Shared → Prop}
theorem linesMd2x2 : True := by
  k_with "mine tk" => (((try dsimp only); first | with_reducible assumption | ((repeat (with_reducible refine Tk.add _ ?_)); with_reducible assumption) | exact Tk.succ | fail "mine: tk"))
  k_with "exec Assign" => (((fail_if_success (with_reducible show wpAny _ _ _ (UpQ _ _) _ _)); refine wpUp (by walk_at "mine tk") ?_))
  k_with "exec If" => (((fail_if_success (with_reducible show wpAny _ _ _ (UpQ _ _) _ _)); refine wpUp (by walk_at "mine tk") ?_))
  k_with "execs cons" => (((with_reducible show wpAny _ _ _ _ _ (Shared.mk _ _ _ (HAdd.hAdd _ _) _)); (refine genTk (by walk_at "mine tk") ?_); intro tk' hTk'; (try dsimp only)))
  k_with "UpQ" => ((refine UpQ.mk ?_; intro hTk'; (try dsimp only at hTk'); (try dsimp only)))
  k_with "loadName" => ((k_here; k_dflt (refine' ldnE ?k1z237 ?kLz237 ?k2z237 ?_; (case k1z237 => k_asm); (case kLz237 => exact rfl); (case k2z237 => first | exact rfl | assumption | fail "no"); k_whole)))
  k_with "eval Name" => ((k_here; k_dflt (refine' ldE ?k1z238 ?kLz238 ?k2z238 ?_; (case k1z238 => k_asm); (case kLz238 => exact rfl); (case k2z238 => first | exact rfl | assumption | fail "no"); k_whole)))
  k_with "mine eq1" => (first | exact eqI_at (by first | rfl | with_reducible assumption | omega) | exact eqF_at (by first | with_reducible assumption | exact Eq.symm (by with_reducible assumption)) (by walk_at "mine tk") (by walk_at "mine tk") (by exact noneBooked (by k_asm) (by k_asm) (by k_asm)) | exact eqS_at (by first | rfl | with_reducible assumption))
  k_with "mine eql" => (((try simp only [EqL, and_true]); (repeat' apply And.intro); all_goals walk_at "mine eq1"))
  k_with "compareOp Eq ref ref" => ((k_here; k_dflt (refine' eqT ?hlz241 ?hbz241 ?huz241 ?hez241 ?_; (case hlz241 => exact tupAt (by k_asm) (by k_mem)); (case hbz241 => exact tupAt (by k_asm) (by k_mem)); (case huz241 => ktr_units); (case hez241 => walk_at "mine eql"))))
  k_with "compareOp NotEq ref ref" => ((k_here; k_dflt (refine' neT ?hlz242 ?hbz242 ?huz242 ?hez242 ?_; (case hlz242 => exact tupAt (by k_asm) (by k_mem)); (case hbz242 => exact tupAt (by k_asm) (by k_mem)); (case huz242 => ktr_units); (case hez242 => walk_at "mine eql"))))
  k_with "subscriptTail Name Name ref int" => ((k_here; (with_reducible show wpAny _ _ (subscriptTail _ _ (Value.ref _) (Value.int _ _)) _ _ _); k_dflt (refine' itemAt ?Nz243 ?mz243 ?xz243 ?_ ?sz243; (case Nz243 => k_asm); (case mz243 => k_mem); (case xz243 => exact ⟨by omega, by omega, by with_reducible assumption⟩); (case sz243 => with_unfolding_all rfl))))
  k_with "subscriptTail Name BinOp ref int" => ((k_here; (with_reducible show wpAny _ _ (subscriptTail _ _ (Value.ref _) (Value.int _ _)) _ _ _); k_dflt (refine' itemAt ?Nz244 ?mz244 ?xz244 ?_ ?sz244; (case Nz244 => k_asm); (case mz244 => k_mem); (case xz244 => exact ⟨by omega, by omega, by with_reducible assumption⟩); (case sz244 => with_unfolding_all rfl))))
  k_with "exec Assign cons Dict" => (((fail_if_success (with_reducible show wpAny _ _ _ (UpQ _ _) _ _)); refine wpUp (by walk_at "mine tk") ?_))
  k_with "exec Assign cons ListComp" => (((fail_if_success (with_reducible show wpAny _ _ _ (UpQ _ _) _ _)); refine wpUp (by walk_at "mine tk") ?_))
  k_with "exec Assign cons Call" => (((fail_if_success (with_reducible show wpAny _ _ _ (UpQ _ _) _ _)); refine wpUp (by walk_at "mine tk") ?_))
  k_with "exec Assign cons" => (((fail_if_success (with_reducible show wpAny _ _ _ (UpQ _ _) _ _)); refine wpUp (by walk_at "mine tk") ?_))
  trivial
theorem divHi {prog : Program} {A : Around} {x y : Int} {t u : Tok} (hA : A.handled = none) (hx : 0 ≤ x ∧ x ≤ 12) (hy : 1 ≤ y ∧ y ≤ 12) (h : Q (.float (Float64.ofFrac false x.toNat y.toNat) s.toks) { s with toks := s.toks + 1 }) :
    wpAny (model prog w) A (binaryOp .Div (.int x t) (.int y u)) Q E s := by
  have e : Float64.ofFrac (decide (x < 0) != decide (y < 0)) x.natAbs y.natAbs = Float64.ofFrac false x.toNat y.toNat := by
    have h1 : decide (x < 0) = false := decide_eq_false (by omega)
    have h3 : decide (y < 0) = false := decide_eq_false (by omega)
    have h2 : x.natAbs = x.toNat := by omega
    have h4 : y.natAbs = y.toNat := by omega
    rw [h1, h2, h3, h4]; rfl
  exact Flt.div_ii_fits hA (by have : x.natAbs < 2 ^ 4 := by omega
                               exact Nat.lt_of_lt_of_le this (Nat.pow_le_pow_right (by decide) (by decide))) (fun h => absurd h (by omega)) (fun _ _ => by rw [e]; exact h)
section
theorem linesMd2x3 : True := by
  k_with "compareOp Eq int int" => (refine ofMark ?_)
  k_with "execs cons" => (((with_reducible show wpAny _ _ (execs (Stmt.Assign [Expr.Name (Str.ofString "names") _] _ _ :: _) _) _ _ _); refine ofMark ?_))
  trivial
set_option maxHeartbeats 4000000 in
theorem segD1 {L₀ : Addr} {x y z : Int} {H S V : UInt64} {la lc lr lm tv : Addr} {t1 t2 t3 c1 c2 c3 c4 c5 c6 d1 d2 d3 d4 d5 d6 u1 u2 u3 : Tok} {m1 m2 m3 m4 m5 m6 : UInt64} {r1 r2 r3 r4 r5 r6 : Addr} {oM oU oLo oT oH oW oG : Obj} {oA : Obj} {cA : Addr} {ocA : Obj} {oB : Obj} {cB : Addr} {ocB : Obj}
   {params : Arguments} {body : List Stmt} {scope : Scope} {Qf : Flow → Shared → Prop} {Ef : Value → Shared → Prop} {lo hi : Int} {tlo thi : Tok} {st ld bo p : Int} {ts tld tbo tp : Tok}
   (hI : oneDef = some (params, body, scope)) (F : Fr h₀ L s.heap m) (X : (Mine.hd.heap_1 w.params).In h₀) (T : Top pg lz mean mg mb h₀)
   (C1 : CodeHd h₀ 55 51) (C2 : CodeHd h₀ 62 58) (hd : dp + 30 < recursionLimit) (hun : un + 1000 < cLine) (hTk : Tk True s.toks)
   (l' : @LT.lt Nat _ la L ∧ @LT.lt Nat _ lc L ∧ @LT.lt Nat _ lr L ∧ @LT.lt Nat _ lm L ∧ @LT.lt Nat _ 51 L ∧ @LT.lt Nat _ cA L ∧ @LT.lt Nat _ 58 L ∧ @LT.lt Nat _ cB L) (ltv : @LT.lt Nat _ (L + 1 + 1 + 1 + 1 + 1 + 1 + 1) tv)
   (N : News h₀ L s.heap [(L + 1 + 1 + 1 + 1 + 1 + 1 + 1, oM), (L + 1 + 1 + 1 + 1 + 1 + 1, oU), (L + 1 + 1 + 1 + 1 + 1, oLo), (L + 1 + 1 + 1 + 1, oT), (L + 1 + 1 + 1, oH), (L + 1 + 1, oW), (L + 1, oG), (tv, tupO [.float H u1, .float S u2, .float V u3]), (la, lstO [.int x t1, .int y t2, .int z t3]), (lc, lstO [.int 4 c1, .int 6 c2, .int 2 c3, .int 3 c4, .int 1 c5, .int 5 c6]), (lr, LCg.lst [.ref r1, .ref r2, .ref r3, .ref r4, .ref r5, .ref r6]), (lm, LCg.lst [.float m1 d1, .float m2 d2, .float m3 d3, .float m4 d4, .float m5 d5, .float m6 d6]), (51, oA), (cA, ocA), (58, oB), (cB, ocB)])
   (hm1 : m "codes" = some (.ref lc)) (hm2 : m "ring" = some (.ref lr)) (hm3 : m "step" = some (.int st ts)) (hm9 : m "marks" = some (.ref lm)) (hm4 : m "lead" = some (.int ld tld)) (hm5 : m "both" = some (.int bo tbo)) (hm6 : m "place" = some (.int p tp)) (hne : ld ≠ bo)
   (hF : ∀ (h' : Heap) (tk' : Nat), Fr h₀ L h' m → News h₀ L h' [(L + 1 + 1 + 1 + 1 + 1 + 1 + 1, oM), (L + 1 + 1 + 1 + 1 + 1 + 1, oU), (L + 1 + 1 + 1 + 1 + 1, oLo), (L + 1 + 1 + 1 + 1, oT), (L + 1 + 1 + 1, oH), (L + 1 + 1, oW), (L + 1, oG), (tv, tupO [.float H u1, .float S u2, .float V u3]), (la, lstO [.int x t1, .int y t2, .int z t3]), (lc, lstO [.int 4 c1, .int 6 c2, .int 2 c3, .int 3 c4, .int 1 c5, .int 5 c6]), (lr, LCg.lst [.ref r1, .ref r2, .ref r3, .ref r4, .ref r5, .ref r6]), (lm, LCg.lst [.float m1 d1, .float m2 d2, .float m3 d3, .float m4 d4, .float m5 d5, .float m6 d6]), (51, oA), (cA, ocA), (58, oB), (cB, ocB)] → Tk True tk' →
      wpAny (model PySem.Challenge.rw_ph0126_01.row.prog w) ((ktrTop dp un gd cn cs L₀ a ccd cl outer).deeper (oneEnv scope L)) (execs (body.drop 9) (oneEnv scope L)) Qf Ef { s with heap := h', toks := tk' })
   : wpAny (model PySem.Challenge.rw_ph0126_01.row.prog w) ((ktrTop dp un gd cn cs L₀ a ccd cl outer).deeper (oneEnv scope L)) (execs (body.drop 8) (oneEnv scope L)) Qf Ef s := by
  revert X; k_fill; intro X
  conv at hI => lhs; whnf
  injection hI with hI
  injection hI with e1 e2
  injection e2 with e2 e3
  subst e1 e2 e3
  dsimp only [List.drop]
  (try k_fold)
  k_steps
  refine mark ?_
  refine eqi_f hne ?_
  k_steps
  refine mark ?_
  rename News _ _ _ _ => N1; rename Fr _ _ _ _ => F1
  exact hF _ _ F1 N1 (by walk_at "mine tk")
end
end
/-! text Md3 -/
section
theorem linesMd3x1 : True := by
  k_with_none
  k_with "mine enter" => ((refine' enter ?k2z251 ?k3z251 ?k4z251 ?k5z251 ?k6z251 ?k7z251 ?k8z251 ?k9z251 ?kBz251 ?_ ?c2z251 ?c3z251 ?c4z251 ?c5z251; (case k2z251 => k_asm); (case k3z251 => k_asm); (case k4z251 => k_asm); (case k5z251 => k_asm); (case k6z251 => k_is); (case k7z251 => k_is); (case k8z251 => ktr_room); (case k9z251 => exact BindsTo.of_eq rfl); (case c5z251 => decide); (case kBz251 => exact locs rfl); (case c2z251 => exact rfl); (case c3z251 => exact rfl); (case c4z251 => exact rfl); k_whole))
  k_with "mine keeps" => (((with_reducible rename Keeps _ _ _ => kK); (have F' := frAfter0 (by k_asm) kK); (have N' := newsAfter0 (by k_asm) kK); clear kK; (try k_sweep)))
  k_with "mine made" => (((with_reducible rename Keeps _ _ _ => kK); rename (Heap.get? _ _ = none) => kn; rename (Heap.get? _ _ = some _) => ks; (have l1 := allNe_of (by k_asm) kn); (have N' := newsIn (by k_asm) kn ks (newsAfter0 (by k_asm) kK)); (have F' := frAfter0 (by k_asm) kK); clear kK kn ks; (try k_sweep)))
  trivial
variable {pg : Program} {lz : List Str} {w : World} {mean : ExcName → Option Value} {mg mb : Str → Option Value}
   {dp un : Nat} {gd : Option (List Code)} {cn : Str} {cs : Scope} {a : Addr} {ccd : Value} {cl : List (Str × Addr)} {outer : List Env} {h₀ : Heap} {L : Addr} {m : Str → Option Value} {s : Shared} {Q E : Value → Shared → Prop}
theorem linesMd3x2 : True := by
  k_with "mine tk" => (((try dsimp only); first | with_reducible assumption | ((repeat (with_reducible refine Tk.add _ ?_)); with_reducible assumption) | exact Tk.succ | fail "mine: tk"))
  k_with "exec Assign" => (((fail_if_success (with_reducible show wpAny _ _ _ (UpQ _ _) _ _)); refine wpUp (by walk_at "mine tk") ?_))
  k_with "exec If" => (((fail_if_success (with_reducible show wpAny _ _ _ (UpQ _ _) _ _)); refine wpUp (by walk_at "mine tk") ?_))
  k_with "execs cons" => (((with_reducible show wpAny _ _ _ _ _ (Shared.mk _ _ _ (HAdd.hAdd _ _) _)); (refine genTk (by walk_at "mine tk") ?_); intro tk' hTk'; (try dsimp only)))
  k_with "UpQ" => ((refine UpQ.mk ?_; intro hTk'; (try dsimp only at hTk'); (try dsimp only)))
  k_with "loadName" => ((k_here; k_dflt (refine' ldnE ?k1z259 ?kLz259 ?k2z259 ?_; (case k1z259 => k_asm); (case kLz259 => exact rfl); (case k2z259 => first | exact rfl | assumption | fail "no"); k_whole)))
  k_with "eval Name" => ((k_here; k_dflt (refine' ldE ?k1z260 ?kLz260 ?k2z260 ?_; (case k1z260 => k_asm); (case kLz260 => exact rfl); (case k2z260 => first | exact rfl | assumption | fail "no"); k_whole)))
  k_with "mine eq1" => (first | exact eqI_at (by first | rfl | with_reducible assumption | omega) | exact eqF_at (by first | with_reducible assumption | exact Eq.symm (by with_reducible assumption)) (by walk_at "mine tk") (by walk_at "mine tk") (by exact noneBooked (by k_asm) (by k_asm) (by k_asm)) | exact eqS_at (by first | rfl | with_reducible assumption))
  k_with "mine eql" => (((try simp only [EqL, and_true]); (repeat' apply And.intro); all_goals walk_at "mine eq1"))
  k_with "compareOp Eq ref ref" => ((k_here; k_dflt (refine' eqT ?hlz263 ?hbz263 ?huz263 ?hez263 ?_; (case hlz263 => exact tupAt (by k_asm) (by k_mem)); (case hbz263 => exact tupAt (by k_asm) (by k_mem)); (case huz263 => ktr_units); (case hez263 => walk_at "mine eql"))))
  k_with "compareOp NotEq ref ref" => ((k_here; k_dflt (refine' neT ?hlz264 ?hbz264 ?huz264 ?hez264 ?_; (case hlz264 => exact tupAt (by k_asm) (by k_mem)); (case hbz264 => exact tupAt (by k_asm) (by k_mem)); (case huz264 => ktr_units); (case hez264 => walk_at "mine eql"))))
  k_with "subscriptTail Name Name ref int" => ((k_here; (with_reducible show wpAny _ _ (subscriptTail _ _ (Value.ref _) (Value.int _ _)) _ _ _); k_dflt (refine' itemAt ?Nz265 ?mz265 ?xz265 ?_ ?sz265; (case Nz265 => k_asm); (case mz265 => k_mem); (case xz265 => exact ⟨by omega, by omega, by with_reducible assumption⟩); (case sz265 => with_unfolding_all rfl))))
  k_with "subscriptTail Name BinOp ref int" => ((k_here; (with_reducible show wpAny _ _ (subscriptTail _ _ (Value.ref _) (Value.int _ _)) _ _ _); k_dflt (refine' itemAt ?Nz266 ?mz266 ?xz266 ?_ ?sz266; (case Nz266 => k_asm); (case mz266 => k_mem); (case xz266 => exact ⟨by omega, by omega, by with_reducible assumption⟩); (case sz266 => with_unfolding_all rfl))))
  k_with "exec Assign cons Dict" => (((fail_if_success (with_reducible show wpAny _ _ _ (UpQ _ _) _ _)); refine wpUp (by walk_at "mine tk") ?_))
  k_with "exec Assign cons ListComp" => (((fail_if_success (with_reducible show wpAny _ _ _ (UpQ _ _) _ _)); refine wpUp (by walk_at "mine tk") ?_))
  k_with "exec Assign cons Call" => (((fail_if_success (with_reducible show wpAny _ _ _ (UpQ _ _) _ _)); refine wpUp (by walk_at "mine tk") ?_))
  k_with "exec Assign cons" => (((fail_if_success (with_reducible show wpAny _ _ _ (UpQ _ _) _ _)); refine wpUp (by walk_at "mine tk") ?_))
  trivial
section
theorem linesMd3x3 : True := by
  k_with "compareOp Eq int int" => (refine ofMark ?_)
  k_with "compareOp Eq ref ref" => (refine ofMark ?_)
  k_with "binaryOp Div int int" => (((with_reducible show wpAny _ _ (binaryOp _ (Value.int _ _) (Value.int _ _)) _ _ _); first | (refine div16 rfl (by omega) ?_; dsimp only) | (refine divHi rfl (by omega) (by omega) ?_; dsimp only) | fail "no"))
  trivial
set_option maxHeartbeats 4000000 in
theorem segD2 {L₀ : Addr} {x y z : Int} {H S V : UInt64} {la lc lr lm tv : Addr} {t1 t2 t3 c1 c2 c3 c4 c5 c6 d1 d2 d3 d4 d5 d6 u1 u2 u3 : Tok} {m1 m2 m3 m4 m5 m6 : UInt64} {r1 r2 r3 r4 r5 r6 : Addr} {oM oU oLo oT oH oW oG : Obj} {oA : Obj} {cA : Addr} {ocA : Obj} {oB : Obj} {cB : Addr} {ocB : Obj}
   {params : Arguments} {body : List Stmt} {scope : Scope} {Qf : Flow → Shared → Prop} {Ef : Value → Shared → Prop} {lo hi : Int} {tlo thi : Tok} {st ld bo p : Int} {ts tld tbo tp ck0 dmp : Tok} {mp : UInt64}
   (hI : oneDef = some (params, body, scope)) (F : Fr h₀ L s.heap m) (X : (Mine.hd.heap_1 w.params).In h₀) (T : Top pg lz mean mg mb h₀)
   (C1 : CodeHd h₀ 55 51) (C2 : CodeHd h₀ 62 58) (hd : dp + 30 < recursionLimit) (hun : un + 1000 < cLine) (hTk : Tk True s.toks)
   (l' : @LT.lt Nat _ la L ∧ @LT.lt Nat _ lc L ∧ @LT.lt Nat _ lr L ∧ @LT.lt Nat _ lm L ∧ @LT.lt Nat _ 51 L ∧ @LT.lt Nat _ cA L ∧ @LT.lt Nat _ 58 L ∧ @LT.lt Nat _ cB L) (ltv : @LT.lt Nat _ (L + 1 + 1 + 1 + 1 + 1 + 1 + 1) tv)
   (N : News h₀ L s.heap [(L + 1 + 1 + 1 + 1 + 1 + 1 + 1, oM), (L + 1 + 1 + 1 + 1 + 1 + 1, oU), (L + 1 + 1 + 1 + 1 + 1, oLo), (L + 1 + 1 + 1 + 1, oT), (L + 1 + 1 + 1, oH), (L + 1 + 1, oW), (L + 1, oG), (tv, tupO [.float H u1, .float S u2, .float V u3]), (la, lstO [.int x t1, .int y t2, .int z t3]), (lc, lstO [.int 4 c1, .int 6 c2, .int 2 c3, .int 3 c4, .int 1 c5, .int 5 c6]), (lr, LCg.lst [.ref r1, .ref r2, .ref r3, .ref r4, .ref r5, .ref r6]), (lm, LCg.lst [.float m1 d1, .float m2 d2, .float m3 d3, .float m4 d4, .float m5 d5, .float m6 d6]), (51, oA), (cA, ocA), (58, oB), (cB, ocB)])
   (dT : oT.data = .cell (some (.ref tv))) (dH : oH.data = .cell (some (.int hi thi))) (dW : oW.data = .cell (some (.int lo tlo))) (dG : oG.data = .cell (some (.ref la)))
   (hm1 : m "codes" = some (.ref lc)) (hm2 : m "ring" = some (.ref lr)) (hm3 : m "step" = some (.int st ts)) (hm9 : m "marks" = some (.ref lm)) (hm4 : m "lead" = some (.int ld tld)) (hm5 : m "both" = some (.int bo tbo)) (hm6 : m "place" = some (.int p tp)) (hEq : ld = bo) (hlo : 0 ≤ lo ∧ lo ≤ 12 ∧ 0 ≤ hi - lo) (hhi : 1 ≤ hi ∧ hi ≤ 12) (hp : 0 ≤ p ∧ p ≤ 5)
   (hk0 : [Value.int 4 c1, .int 6 c2, .int 2 c3, .int 3 c4, .int 1 c5, .int 5 c6][p.toNat]? = some (.int ld ck0))
   (hmp : [Value.float m1 d1, .float m2 d2, .float m3 d3, .float m4 d4, .float m5 d5, .float m6 d6][p.toNat]? = some (.float mp dmp))
   (hu1 : Tk True u1) (hu2 : Tk True u2) (hu3 : Tk True u3) (hdm : Tk True dmp)
   (f1 : eqF H mp = true) (f2 : eqF S (Float64.ofFrac false (hi - lo).toNat hi.toNat) = true) (f3 : eqF V (dF hi) = true)
   (hF : ∀ (h' : Heap) (tk' : Nat) (m' : Str → Option Value), Fr h₀ L h' m' → News h₀ L h' [(la, lstO [.int x t1, .int y t2, .int z t3]), (lc, lstO [.int 4 c1, .int 6 c2, .int 2 c3, .int 3 c4, .int 1 c5, .int 5 c6]), (lr, LCg.lst [.ref r1, .ref r2, .ref r3, .ref r4, .ref r5, .ref r6]), (lm, LCg.lst [.float m1 d1, .float m2 d2, .float m3 d3, .float m4 d4, .float m5 d5, .float m6 d6]), (51, oA), (cA, ocA), (58, oB), (cB, ocB)] → Qf (.ret (.bool true)) { s with heap := h', toks := tk' })
   : wpAny (model PySem.Challenge.rw_ph0126_01.row.prog w) ((ktrTop dp un gd cn cs L₀ a ccd cl outer).deeper (oneEnv scope L)) (execs (body.drop 8) (oneEnv scope L)) Qf Ef s := by
  revert X; k_fill; intro X
  conv at hI => lhs; whnf
  injection hI with hI
  injection hI with e1 e2
  injection e2 with e2 e3
  subst e1 e2 e3
  dsimp only [List.drop]
  (try k_fold)
  k_steps
  refine mark ?_
  refine eqi_t hEq ?_
  k_steps
  refine mark ?_
  refine eqi_t rfl ?_
  k_steps
  refine mark ?_
  rename News _ _ _ _ => N1; rename Fr _ _ _ _ => F1
  refine eqT (tupAt N1 (by k_mem)) (tupAt N1 (by k_mem)) (by ktr_units) ?he1 ?_
  case he1 => exact ⟨eqF_at f1 hu1 hdm (noneBooked F1 X T), eqF_at f2 hu2 (by walk_at "mine tk") (noneBooked F1 X T), eqF_at f3 hu3 (by walk_at "mine tk") (noneBooked F1 X T), trivial⟩
  k_steps
  rename News _ _ _ _ => N1; rename Fr _ _ _ _ => F1
  exact hF _ _ _ F1 (fun p hp => N1 p (.tail _ (List.mem_append_right ([_, _, _, _, _, _, _, _] : List (Addr × Obj)) hp)))
end
end
/-! text Ma1 -/
section
theorem linesMa1x1 : True := by
  k_with_none
  k_with "mine enter" => ((refine' enter ?k2z274 ?k3z274 ?k4z274 ?k5z274 ?k6z274 ?k7z274 ?k8z274 ?k9z274 ?kBz274 ?_ ?c2z274 ?c3z274 ?c4z274 ?c5z274; (case k2z274 => k_asm); (case k3z274 => k_asm); (case k4z274 => k_asm); (case k5z274 => k_asm); (case k6z274 => k_is); (case k7z274 => k_is); (case k8z274 => ktr_room); (case k9z274 => exact BindsTo.of_eq rfl); (case c5z274 => decide); (case kBz274 => exact locs rfl); (case c2z274 => exact rfl); (case c3z274 => exact rfl); (case c4z274 => exact rfl); k_whole))
  k_with "mine keeps" => (((with_reducible rename Keeps _ _ _ => kK); (have F' := frAfter0 (by k_asm) kK); (have N' := newsAfter0 (by k_asm) kK); clear kK; (try k_sweep)))
  k_with "mine made" => (((with_reducible rename Keeps _ _ _ => kK); rename (Heap.get? _ _ = none) => kn; rename (Heap.get? _ _ = some _) => ks; (have l1 := allNe_of (by k_asm) kn); (have N' := newsIn (by k_asm) kn ks (newsAfter0 (by k_asm) kK)); (have F' := frAfter0 (by k_asm) kK); clear kK kn ks; (try k_sweep)))
  trivial
variable {pg : Program} {lz : List Str} {w : World} {mean : ExcName → Option Value} {mg mb : Str → Option Value}
   {dp un : Nat} {gd : Option (List Code)} {cn : Str} {cs : Scope} {a : Addr} {ccd : Value} {cl : List (Str × Addr)} {outer : List Env} {h₀ : Heap} {L : Addr} {m : Str → Option Value} {s : Shared} {Q E : Value → Shared → Prop}
theorem linesMa1x2 : True := by
  k_with "mine tk" => (((try dsimp only); first | with_reducible assumption | ((repeat (with_reducible refine Tk.add _ ?_)); with_reducible assumption) | exact Tk.succ | fail "mine: tk"))
  k_with "exec Assign" => (((fail_if_success (with_reducible show wpAny _ _ _ (UpQ _ _) _ _)); refine wpUp (by walk_at "mine tk") ?_))
  k_with "exec If" => (((fail_if_success (with_reducible show wpAny _ _ _ (UpQ _ _) _ _)); refine wpUp (by walk_at "mine tk") ?_))
  k_with "execs cons" => (((with_reducible show wpAny _ _ _ _ _ (Shared.mk _ _ _ (HAdd.hAdd _ _) _)); (refine genTk (by walk_at "mine tk") ?_); intro tk' hTk'; (try dsimp only)))
  k_with "UpQ" => ((refine UpQ.mk ?_; intro hTk'; (try dsimp only at hTk'); (try dsimp only)))
  k_with "loadName" => ((k_here; k_dflt (refine' ldnE ?k1z282 ?kLz282 ?k2z282 ?_; (case k1z282 => k_asm); (case kLz282 => exact rfl); (case k2z282 => first | exact rfl | assumption | fail "no"); k_whole)))
  k_with "eval Name" => ((k_here; k_dflt (refine' ldE ?k1z283 ?kLz283 ?k2z283 ?_; (case k1z283 => k_asm); (case kLz283 => exact rfl); (case k2z283 => first | exact rfl | assumption | fail "no"); k_whole)))
  k_with "mine eq1" => (first | exact eqI_at (by first | rfl | with_reducible assumption | omega) | exact eqF_at (by first | with_reducible assumption | exact Eq.symm (by with_reducible assumption)) (by walk_at "mine tk") (by walk_at "mine tk") (by exact noneBooked (by k_asm) (by k_asm) (by k_asm)) | exact eqS_at (by first | rfl | with_reducible assumption))
  k_with "mine eql" => (((try simp only [EqL, and_true]); (repeat' apply And.intro); all_goals walk_at "mine eq1"))
  k_with "compareOp Eq ref ref" => ((k_here; k_dflt (refine' eqT ?hlz286 ?hbz286 ?huz286 ?hez286 ?_; (case hlz286 => exact tupAt (by k_asm) (by k_mem)); (case hbz286 => exact tupAt (by k_asm) (by k_mem)); (case huz286 => ktr_units); (case hez286 => walk_at "mine eql"))))
  k_with "compareOp NotEq ref ref" => ((k_here; k_dflt (refine' neT ?hlz287 ?hbz287 ?huz287 ?hez287 ?_; (case hlz287 => exact tupAt (by k_asm) (by k_mem)); (case hbz287 => exact tupAt (by k_asm) (by k_mem)); (case huz287 => ktr_units); (case hez287 => walk_at "mine eql"))))
  k_with "subscriptTail Name Name ref int" => ((k_here; (with_reducible show wpAny _ _ (subscriptTail _ _ (Value.ref _) (Value.int _ _)) _ _ _); k_dflt (refine' itemAt ?Nz288 ?mz288 ?xz288 ?_ ?sz288; (case Nz288 => k_asm); (case mz288 => k_mem); (case xz288 => exact ⟨by omega, by omega, by with_reducible assumption⟩); (case sz288 => with_unfolding_all rfl))))
  k_with "subscriptTail Name BinOp ref int" => ((k_here; (with_reducible show wpAny _ _ (subscriptTail _ _ (Value.ref _) (Value.int _ _)) _ _ _); k_dflt (refine' itemAt ?Nz289 ?mz289 ?xz289 ?_ ?sz289; (case Nz289 => k_asm); (case mz289 => k_mem); (case xz289 => exact ⟨by omega, by omega, by with_reducible assumption⟩); (case sz289 => with_unfolding_all rfl))))
  k_with "exec Assign cons Dict" => (((fail_if_success (with_reducible show wpAny _ _ _ (UpQ _ _) _ _)); refine wpUp (by walk_at "mine tk") ?_))
  k_with "exec Assign cons ListComp" => (((fail_if_success (with_reducible show wpAny _ _ _ (UpQ _ _) _ _)); refine wpUp (by walk_at "mine tk") ?_))
  k_with "exec Assign cons Call" => (((fail_if_success (with_reducible show wpAny _ _ _ (UpQ _ _) _ _)); refine wpUp (by walk_at "mine tk") ?_))
  k_with "exec Assign cons" => (((fail_if_success (with_reducible show wpAny _ _ _ (UpQ _ _) _ _)); refine wpUp (by walk_at "mine tk") ?_))
  trivial
section
theorem linesMa1x3 : True := by
  k_with "compareOp Eq int int" => (refine ofMark ?_)
  k_with "compareOp Eq ref ref" => (refine ofMark ?_)
  k_with "binaryOp Div int int" => (((with_reducible show wpAny _ _ (binaryOp _ (Value.int _ _) (Value.int 16 _)) _ _ _); refine div16 rfl (by omega) ?_; dsimp only))
  k_with "execs cons" => (((with_reducible show wpAny _ _ (execs (Stmt.Assign [Expr.Name (Str.ofString "lead") _] _ _ :: _) _) _ _ _); refine ofMark ?_))
  trivial
set_option maxHeartbeats 4000000 in
theorem segA {L₀ : Addr} {x y z : Int} {H S V : UInt64} {la lc lr lm tv : Addr} {t1 t2 t3 c1 c2 c3 c4 c5 c6 d1 d2 d3 d4 d5 d6 u1 u2 u3 : Tok} {m1 m2 m3 m4 m5 m6 : UInt64} {r1 r2 r3 r4 r5 r6 : Addr} {oM oU oLo oT oH oW oG : Obj} {oA : Obj} {cA : Addr} {ocA : Obj} {oB : Obj} {cB : Addr} {ocB : Obj}
   {params : Arguments} {body : List Stmt} {scope : Scope} {Qf : Flow → Shared → Prop} {Ef : Value → Shared → Prop} {lo hi : Int} {tlo thi : Tok}
   (hI : oneDef = some (params, body, scope)) (F : Fr h₀ L s.heap m) (X : (Mine.hd.heap_1 w.params).In h₀) (T : Top pg lz mean mg mb h₀)
   (C1 : CodeHd h₀ 55 51) (C2 : CodeHd h₀ 62 58) (hd : dp + 30 < recursionLimit) (hun : un + 1000 < cLine) (hTk : Tk True s.toks)
   (l' : @LT.lt Nat _ la L ∧ @LT.lt Nat _ lc L ∧ @LT.lt Nat _ lr L ∧ @LT.lt Nat _ lm L ∧ @LT.lt Nat _ 51 L ∧ @LT.lt Nat _ cA L ∧ @LT.lt Nat _ 58 L ∧ @LT.lt Nat _ cB L) (ltv : @LT.lt Nat _ (L + 1 + 1 + 1 + 1 + 1 + 1 + 1) tv)
   (N : News h₀ L s.heap [(L + 1 + 1 + 1 + 1 + 1 + 1 + 1, oM), (L + 1 + 1 + 1 + 1 + 1 + 1, oU), (L + 1 + 1 + 1 + 1 + 1, oLo), (L + 1 + 1 + 1 + 1, oT), (L + 1 + 1 + 1, oH), (L + 1 + 1, oW), (L + 1, oG), (tv, tupO [.float H u1, .float S u2, .float V u3]), (la, lstO [.int x t1, .int y t2, .int z t3]), (lc, lstO [.int 4 c1, .int 6 c2, .int 2 c3, .int 3 c4, .int 1 c5, .int 5 c6]), (lr, LCg.lst [.ref r1, .ref r2, .ref r3, .ref r4, .ref r5, .ref r6]), (lm, LCg.lst [.float m1 d1, .float m2 d2, .float m3 d3, .float m4 d4, .float m5 d5, .float m6 d6]), (51, oA), (cA, ocA), (58, oB), (cB, ocB)])
   (dT : oT.data = .cell (some (.ref tv))) (dH : oH.data = .cell (some (.int hi thi))) (dW : oW.data = .cell (some (.int lo tlo))) (dG : oG.data = .cell (some (.ref la))) (hne : lo ≠ hi)
   (hF : ∀ (h' : Heap) (tk' : Nat), Fr h₀ L h' m → News h₀ L h' [(L + 1 + 1 + 1 + 1 + 1 + 1 + 1, oM), (L + 1 + 1 + 1 + 1 + 1 + 1, oU), (L + 1 + 1 + 1 + 1 + 1, oLo), (L + 1 + 1 + 1 + 1, oT), (L + 1 + 1 + 1, oH), (L + 1 + 1, oW), (L + 1, oG), (tv, tupO [.float H u1, .float S u2, .float V u3]), (la, lstO [.int x t1, .int y t2, .int z t3]), (lc, lstO [.int 4 c1, .int 6 c2, .int 2 c3, .int 3 c4, .int 1 c5, .int 5 c6]), (lr, LCg.lst [.ref r1, .ref r2, .ref r3, .ref r4, .ref r5, .ref r6]), (lm, LCg.lst [.float m1 d1, .float m2 d2, .float m3 d3, .float m4 d4, .float m5 d5, .float m6 d6]), (51, oA), (cA, ocA), (58, oB), (cB, ocB)] → Tk True tk' →
      wpAny (model PySem.Challenge.rw_ph0126_01.row.prog w) ((ktrTop dp un gd cn cs L₀ a ccd cl outer).deeper (oneEnv scope L)) (execs (body.drop 5) (oneEnv scope L)) Qf Ef { s with heap := h', toks := tk' })
   : wpAny (model PySem.Challenge.rw_ph0126_01.row.prog w) ((ktrTop dp un gd cn cs L₀ a ccd cl outer).deeper (oneEnv scope L)) (execs (body.drop 4) (oneEnv scope L)) Qf Ef s := by
  revert X; k_fill; intro X
  conv at hI => lhs; whnf
  injection hI with hI
  injection hI with e1 e2
  injection e2 with e2 e3
  subst e1 e2 e3
  dsimp only [List.drop]
  (try k_fold)
  k_steps
  refine mark ?_
  refine eqi_f hne ?_
  k_steps
  refine mark ?_
  rename News _ _ _ _ => N1; rename Fr _ _ _ _ => F1
  exact hF _ _ F1 N1 (by walk_at "mine tk")
set_option maxHeartbeats 4000000 in
theorem segAg {L₀ : Addr} {x y z : Int} {H S V : UInt64} {la lc lr lm tv : Addr} {t1 t2 t3 c1 c2 c3 c4 c5 c6 d1 d2 d3 d4 d5 d6 u1 u2 u3 : Tok} {m1 m2 m3 m4 m5 m6 : UInt64} {r1 r2 r3 r4 r5 r6 : Addr} {oM oU oLo oT oH oW oG : Obj} {oA : Obj} {cA : Addr} {ocA : Obj} {oB : Obj} {cB : Addr} {ocB : Obj}
   {params : Arguments} {body : List Stmt} {scope : Scope} {Qf : Flow → Shared → Prop} {Ef : Value → Shared → Prop} {lo hi : Int} {tlo thi : Tok}
   (hI : oneDef = some (params, body, scope)) (F : Fr h₀ L s.heap m) (X : (Mine.hd.heap_1 w.params).In h₀) (T : Top pg lz mean mg mb h₀)
   (C1 : CodeHd h₀ 55 51) (C2 : CodeHd h₀ 62 58) (hd : dp + 30 < recursionLimit) (hun : un + 1000 < cLine) (hTk : Tk True s.toks)
   (l' : @LT.lt Nat _ la L ∧ @LT.lt Nat _ lc L ∧ @LT.lt Nat _ lr L ∧ @LT.lt Nat _ lm L ∧ @LT.lt Nat _ 51 L ∧ @LT.lt Nat _ cA L ∧ @LT.lt Nat _ 58 L ∧ @LT.lt Nat _ cB L) (ltv : @LT.lt Nat _ (L + 1 + 1 + 1 + 1 + 1 + 1 + 1) tv)
   (N : News h₀ L s.heap [(L + 1 + 1 + 1 + 1 + 1 + 1 + 1, oM), (L + 1 + 1 + 1 + 1 + 1 + 1, oU), (L + 1 + 1 + 1 + 1 + 1, oLo), (L + 1 + 1 + 1 + 1, oT), (L + 1 + 1 + 1, oH), (L + 1 + 1, oW), (L + 1, oG), (tv, tupO [.float H u1, .float S u2, .float V u3]), (la, lstO [.int x t1, .int y t2, .int z t3]), (lc, lstO [.int 4 c1, .int 6 c2, .int 2 c3, .int 3 c4, .int 1 c5, .int 5 c6]), (lr, LCg.lst [.ref r1, .ref r2, .ref r3, .ref r4, .ref r5, .ref r6]), (lm, LCg.lst [.float m1 d1, .float m2 d2, .float m3 d3, .float m4 d4, .float m5 d5, .float m6 d6]), (51, oA), (cA, ocA), (58, oB), (cB, ocB)])
   (dT : oT.data = .cell (some (.ref tv))) (dH : oH.data = .cell (some (.int hi thi))) (dW : oW.data = .cell (some (.int lo tlo))) (dG : oG.data = .cell (some (.ref la))) (hEq : lo = hi) (hhi : 0 ≤ hi ∧ hi ≤ 12)
   (hu1 : Tk True u1) (hu2 : Tk True u2) (hu3 : Tk True u3)
   (f1 : eqF H 0 = true) (f2 : eqF S 0 = true) (f3 : eqF V (dF hi) = true)
   (hF : ∀ (h' : Heap) (tk' : Nat) (m' : Str → Option Value), Fr h₀ L h' m' → News h₀ L h' [(la, lstO [.int x t1, .int y t2, .int z t3]), (lc, lstO [.int 4 c1, .int 6 c2, .int 2 c3, .int 3 c4, .int 1 c5, .int 5 c6]), (lr, LCg.lst [.ref r1, .ref r2, .ref r3, .ref r4, .ref r5, .ref r6]), (lm, LCg.lst [.float m1 d1, .float m2 d2, .float m3 d3, .float m4 d4, .float m5 d5, .float m6 d6]), (51, oA), (cA, ocA), (58, oB), (cB, ocB)] → Qf (.ret (.bool true)) { s with heap := h', toks := tk' })
   : wpAny (model PySem.Challenge.rw_ph0126_01.row.prog w) ((ktrTop dp un gd cn cs L₀ a ccd cl outer).deeper (oneEnv scope L)) (execs (body.drop 4) (oneEnv scope L)) Qf Ef s := by
  revert X; k_fill; intro X
  conv at hI => lhs; whnf
  injection hI with hI
  injection hI with e1 e2
  injection e2 with e2 e3
  subst e1 e2 e3
  dsimp only [List.drop]
  (try k_fold)
  k_steps
  refine mark ?_
  refine eqi_t hEq ?_
  k_steps
  refine mark ?_
  rename News _ _ _ _ => N1; rename Fr _ _ _ _ => F1
  refine eqT (tupAt N1 (by k_mem)) (tupAt N1 (by k_mem)) (by ktr_units) ?he1 ?_
  case he1 => exact ⟨eqF_at f1 hu1 (by walk_at "mine tk") (noneBooked F1 X T), eqF_at f2 hu2 (by walk_at "mine tk") (noneBooked F1 X T), eqF_at f3 hu3 (by walk_at "mine tk") (noneBooked F1 X T), trivial⟩
  k_steps
  rename News _ _ _ _ => N1; rename Fr _ _ _ _ => F1
  exact hF _ _ _ F1 (fun p hp => N1 p (.tail _ (List.mem_append_right ([_, _, _, _, _, _, _, _] : List (Addr × Obj)) hp)))
end
end
/-! text Mg1 -/
section
theorem linesMg1x1 : True := by
  k_with_none
  k_with "mine enter" => ((refine' enter ?k2z298 ?k3z298 ?k4z298 ?k5z298 ?k6z298 ?k7z298 ?k8z298 ?k9z298 ?kBz298 ?_ ?c2z298 ?c3z298 ?c4z298 ?c5z298; (case k2z298 => k_asm); (case k3z298 => k_asm); (case k4z298 => k_asm); (case k5z298 => k_asm); (case k6z298 => k_is); (case k7z298 => k_is); (case k8z298 => ktr_room); (case k9z298 => exact BindsTo.of_eq rfl); (case c5z298 => decide); (case kBz298 => exact locs rfl); (case c2z298 => exact rfl); (case c3z298 => exact rfl); (case c4z298 => exact rfl); k_whole))
  k_with "mine keeps" => (((with_reducible rename Keeps _ _ _ => kK); (have F' := frAfter0 (by k_asm) kK); (have N' := newsAfter0 (by k_asm) kK); clear kK; (try k_sweep)))
  k_with "mine made" => (((with_reducible rename Keeps _ _ _ => kK); rename (Heap.get? _ _ = none) => kn; rename (Heap.get? _ _ = some _) => ks; (have l1 := allNe_of (by k_asm) kn); (have N' := newsIn (by k_asm) kn ks (newsAfter0 (by k_asm) kK)); (have F' := frAfter0 (by k_asm) kK); clear kK kn ks; (try k_sweep)))
  trivial
variable {pg : Program} {lz : List Str} {w : World} {mean : ExcName → Option Value} {mg mb : Str → Option Value}
   {dp un : Nat} {gd : Option (List Code)} {cn : Str} {cs : Scope} {a : Addr} {ccd : Value} {cl : List (Str × Addr)} {outer : List Env} {h₀ : Heap} {L : Addr} {m : Str → Option Value} {s : Shared} {Q E : Value → Shared → Prop}
theorem linesMg1x2 : True := by
  k_with "mine tk" => (((try dsimp only); first | with_reducible assumption | ((repeat (with_reducible refine Tk.add _ ?_)); with_reducible assumption) | exact Tk.succ | fail "mine: tk"))
  k_with "exec Assign" => (((fail_if_success (with_reducible show wpAny _ _ _ (UpQ _ _) _ _)); refine wpUp (by walk_at "mine tk") ?_))
  k_with "exec If" => (((fail_if_success (with_reducible show wpAny _ _ _ (UpQ _ _) _ _)); refine wpUp (by walk_at "mine tk") ?_))
  k_with "execs cons" => (((with_reducible show wpAny _ _ _ _ _ (Shared.mk _ _ _ (HAdd.hAdd _ _) _)); (refine genTk (by walk_at "mine tk") ?_); intro tk' hTk'; (try dsimp only)))
  k_with "UpQ" => ((refine UpQ.mk ?_; intro hTk'; (try dsimp only at hTk'); (try dsimp only)))
  k_with "loadName" => ((k_here; k_dflt (refine' ldnE ?k1z306 ?kLz306 ?k2z306 ?_; (case k1z306 => k_asm); (case kLz306 => exact rfl); (case k2z306 => first | exact rfl | assumption | fail "no"); k_whole)))
  k_with "eval Name" => ((k_here; k_dflt (refine' ldE ?k1z307 ?kLz307 ?k2z307 ?_; (case k1z307 => k_asm); (case kLz307 => exact rfl); (case k2z307 => first | exact rfl | assumption | fail "no"); k_whole)))
  k_with "mine eq1" => (first | exact eqI_at (by first | rfl | with_reducible assumption | omega) | exact eqF_at (by first | with_reducible assumption | exact Eq.symm (by with_reducible assumption)) (by walk_at "mine tk") (by walk_at "mine tk") (by exact noneBooked (by k_asm) (by k_asm) (by k_asm)) | exact eqS_at (by first | rfl | with_reducible assumption))
  k_with "mine eql" => (((try simp only [EqL, and_true]); (repeat' apply And.intro); all_goals walk_at "mine eq1"))
  k_with "compareOp Eq ref ref" => ((k_here; k_dflt (refine' eqT ?hlz310 ?hbz310 ?huz310 ?hez310 ?_; (case hlz310 => exact tupAt (by k_asm) (by k_mem)); (case hbz310 => exact tupAt (by k_asm) (by k_mem)); (case huz310 => ktr_units); (case hez310 => walk_at "mine eql"))))
  k_with "compareOp NotEq ref ref" => ((k_here; k_dflt (refine' neT ?hlz311 ?hbz311 ?huz311 ?hez311 ?_; (case hlz311 => exact tupAt (by k_asm) (by k_mem)); (case hbz311 => exact tupAt (by k_asm) (by k_mem)); (case huz311 => ktr_units); (case hez311 => walk_at "mine eql"))))
  k_with "subscriptTail Name Name ref int" => ((k_here; (with_reducible show wpAny _ _ (subscriptTail _ _ (Value.ref _) (Value.int _ _)) _ _ _); k_dflt (refine' itemAt ?Nz312 ?mz312 ?xz312 ?_ ?sz312; (case Nz312 => k_asm); (case mz312 => k_mem); (case xz312 => exact ⟨by omega, by omega, by with_reducible assumption⟩); (case sz312 => with_unfolding_all rfl))))
  k_with "subscriptTail Name BinOp ref int" => ((k_here; (with_reducible show wpAny _ _ (subscriptTail _ _ (Value.ref _) (Value.int _ _)) _ _ _); k_dflt (refine' itemAt ?Nz313 ?mz313 ?xz313 ?_ ?sz313; (case Nz313 => k_asm); (case mz313 => k_mem); (case xz313 => exact ⟨by omega, by omega, by with_reducible assumption⟩); (case sz313 => with_unfolding_all rfl))))
  k_with "exec Assign cons Dict" => (((fail_if_success (with_reducible show wpAny _ _ _ (UpQ _ _) _ _)); refine wpUp (by walk_at "mine tk") ?_))
  k_with "exec Assign cons ListComp" => (((fail_if_success (with_reducible show wpAny _ _ _ (UpQ _ _) _ _)); refine wpUp (by walk_at "mine tk") ?_))
  k_with "exec Assign cons Call" => (((fail_if_success (with_reducible show wpAny _ _ _ (UpQ _ _) _ _)); refine wpUp (by walk_at "mine tk") ?_))
  k_with "exec Assign cons" => (((fail_if_success (with_reducible show wpAny _ _ _ (UpQ _ _) _ _)); refine wpUp (by walk_at "mine tk") ?_))
  trivial
theorem newsBase {hb : Heap} {h : Heap} {p q r t : Addr × Obj} (F : Fr h₀ L h m) (z1 : h₀.get? p.1 = some p.2 ∧ hb.get? p.1 = none) (z2 : h₀.get? q.1 = some q.2 ∧ hb.get? q.1 = none) (z3 : h₀.get? r.1 = some r.2 ∧ hb.get? r.1 = none) (z4 : h₀.get? t.1 = some t.2 ∧ hb.get? t.1 = none) : News hb L h [p, q, r, t] := by
  have key : ∀ x : Addr × Obj, h₀.get? x.1 = some x.2 ∧ hb.get? x.1 = none → h.get? x.1 = some x.2 ∧ x.1 ≠ L ∧ hb.get? x.1 = none := fun x z => ⟨F.keep _ _ z.1, Nat.ne_of_lt (Nat.lt_of_lt_of_le (Heap.lt_size z.1) F.above), z.2⟩
  intro x hx
  simp only [List.mem_cons, List.not_mem_nil, or_false] at hx
  rcases hx with rfl | rfl | rfl | rfl
  · exact key _ z1
  · exact key _ z2
  · exact key _ z3
  · exact key _ z4
theorem frBase {hb : Heap} {h : Heap} (hsub : ∀ b o, hb.get? b = some o → h₀.get? b = some o) (hbs : hb.objs.size ≤ L) (F : Fr h₀ L h m) : Fr hb L h m := ⟨F.ns, fun b o e => F.keep b o (hsub b o e), hbs⟩
/-- an address that is none of those that are written from here on -/
noncomputable def Off (L d : Addr) : Prop := @Ne Nat d 51 ∧ @Ne Nat d 58 ∧ @Ne Nat (L + 1 + 1 + 1 + 1 + 1) d ∧ @Ne Nat (L + 1 + 1 + 1 + 1 + 1 + 1) d
theorem Off.o51 {d : Addr} (h : Off L d) : @Ne Nat d 51 := h.1
theorem Off.o58 {d : Addr} (h : Off L d) : @Ne Nat d 58 := h.2.1
theorem Off.lo {d : Addr} (h : Off L d) : @Ne Nat (L + 1 + 1 + 1 + 1 + 1) d := h.2.2.1
theorem Off.up {d : Addr} (h : Off L d) : @Ne Nat (L + 1 + 1 + 1 + 1 + 1 + 1) d := h.2.2.2
/-- an address that is none of the tables -/
noncomputable def Off2 (d : Addr) : Prop := @Ne Nat d 51 ∧ @Ne Nat d 58
theorem Off2.o51 {d : Addr} (h : Off2 d) : @Ne Nat d 51 := h.1
theorem Off2.o58 {d : Addr} (h : Off2 d) : @Ne Nat d 58 := h.2
theorem Off2.mk {d : Addr} (a : @Ne Nat d 51) (b : @Ne Nat d 58) : Off2 d := ⟨a, b⟩
/-- an address that is none of the two cells -/
noncomputable def OffC (L d : Addr) : Prop := @Ne Nat (L + 1 + 1 + 1 + 1 + 1) d ∧ @Ne Nat (L + 1 + 1 + 1 + 1 + 1 + 1) d
theorem OffC.lo {d : Addr} (h : OffC L d) : @Ne Nat (L + 1 + 1 + 1 + 1 + 1) d := h.1
theorem OffC.up {d : Addr} (h : OffC L d) : @Ne Nat (L + 1 + 1 + 1 + 1 + 1 + 1) d := h.2
theorem Off.oc {d : Addr} (h : Off L d) : OffC L d := ⟨h.lo, h.up⟩
theorem OffC.of {d : Addr} (h : @LT.lt Nat _ d L) : OffC L d := by constructor <;> (show _ ≠ _; omega)
noncomputable def NoTab : List (Addr × Obj) → Prop
  | [] => True
  | p :: r => (@Ne Nat p.1 51 ∧ @Ne Nat p.1 58) ∧ NoTab r
theorem NoTab.out : ∀ {led : List (Addr × Obj)}, NoTab led → ∀ p ∈ led, p.1 ∉ [(51 : Addr), 58]
  | [], _, _, hp => absurd hp List.not_mem_nil
  | q :: r, h, p, hp => by
    rcases List.mem_cons.mp hp with rfl | hp
    · intro z
      simp only [List.mem_cons, List.not_mem_nil, or_false] at z
      exact z.elim h.1.1 h.1.2
    · exact NoTab.out h.2 p hp
theorem neGet {h : Heap} {a d : Addr} {o : Obj} (g : h.get? a = some o) (n : h.get? d = none) : @Ne Nat a d := fun q => by rw [q, n] at g; cases g
theorem Off.of {h : Heap} {d : Addr} {o1 o2 o3 o4 : Obj} {led : List (Addr × Obj)} (N : News h₀ L h led) (n : h.get? d = none) (h1 : (51, o1) ∈ led) (h2 : (58, o2) ∈ led) (h3 : (L + 1 + 1 + 1 + 1 + 1, o3) ∈ led) (h4 : (L + 1 + 1 + 1 + 1 + 1 + 1, o4) ∈ led) : Off L d :=
  ⟨Ne.symm (neGet (N _ h1).1 n), Ne.symm (neGet (N _ h2).1 n), neGet (N _ h3).1 n, neGet (N _ h4).1 n⟩
theorem oldOrNew {h h' : Heap} {d d0 dx : Addr} {o o0 ox : Obj} (F : Fr h₀ L h m) (k : Keeps [] h h') (N : News h₀ L h' [(dx, ox)]) (hx : Off L dx) (hn : h.get? d = none → Off L d) (z : h₀.get? d0 = some o0) (g : h'.get? d = some o) (c : d = d0 ∨ h.get? d = none) :
    ∃ d' o', News h₀ L h' [(d', o')] ∧ Off L d' ∧ (h₀.get? d = some o ∨ (d = d' ∧ o = o')) := by
  rcases c with rfl | c
  · refine ⟨dx, ox, N, hx, .inl ?_⟩
    have := k _ _ (F.keep _ _ z) (by simp)
    rw [g] at this
    rw [z, Option.some.inj this]
  · exact ⟨d, o, newsIn F c g News.nil, hn c, .inr ⟨rfl, rfl⟩⟩
theorem newsApp {h : Heap} {A B : List (Addr × Obj)} (N : News h₀ L h A) (M : News h₀ L h B) : News h₀ L h (A ++ B) := fun p hp => (List.mem_append.mp hp).elim (N p) (M p)
theorem newsCons {h : Heap} {p : Addr × Obj} {B : List (Addr × Obj)} (N : News h₀ L h [p]) (M : News h₀ L h B) : News h₀ L h (p :: B) := newsApp N M
section
theorem linesMg1x3 : True := by
  k_with "call ref" => (refine ofMark ?_)
  k_with "compareOp NotEq ref ref" => (refine ofMark ?_)
  k_with "execs cons" => (((with_reducible show wpAny _ _ (execs (Stmt.Assign [Expr.Name (Str.ofString "lower") _] _ _ :: _) _) _ _ _); refine ofMark ?_))
  trivial
set_option maxHeartbeats 4000000 in
theorem segG {L₀ : Addr} {x y z : Int} {H S V : UInt64} {la lc lr lm tv : Addr} {t1 t2 t3 c1 c2 c3 c4 c5 c6 d1 d2 d3 d4 d5 d6 u1 u2 u3 : Tok} {m1 m2 m3 m4 m5 m6 : UInt64} {r1 r2 r3 r4 r5 r6 : Addr} {oM oU oLo oT oH oW oG : Obj} {oA : Obj} {cA : Addr} {ocA : Obj} {oB : Obj} {cB : Addr} {ocB : Obj}
   {params : Arguments} {body : List Stmt} {scope : Scope} {Qf : Flow → Shared → Prop} {Ef : Value → Shared → Prop} {lo hi : Int} {tlo thi : Tok} {p k0 k1 lw up : Int} {n1 n2 tl tu tm tp : Tok} {na rl rr da db : Addr} {l u md lo' up' : Ent} {oa ob : Obj} {ka kb : List (Int × Value)} {wd wq : Str} {kf : Nat} {e1 e2 e3 e4 e5 e6 e7 e8 : Tok}
   (hI : oneDef = some (params, body, scope)) (F : Fr h₀ L s.heap m) (X : (Mine.hd.heap_1 w.params).In h₀) (T : Top pg lz mean mg mb h₀)
   (C1 : CodeHd h₀ 55 51) (C2 : CodeHd h₀ 62 58) (hd : dp + 30 < recursionLimit) (hun : un + 1000 < cLine) (hTk : Tk True s.toks)
   (l' : @LT.lt Nat _ la L ∧ @LT.lt Nat _ lc L ∧ @LT.lt Nat _ lr L ∧ @LT.lt Nat _ lm L ∧ @LT.lt Nat _ 51 L ∧ @LT.lt Nat _ cA L ∧ @LT.lt Nat _ 58 L ∧ @LT.lt Nat _ cB L) (ltv : @LT.lt Nat _ (L + 1 + 1 + 1 + 1 + 1 + 1 + 1) tv)
   {hb : Heap} (hsub : ∀ b o, hb.get? b = some o → h₀.get? b = some o) (hbs : hb.objs.size ≤ L) (Xb : Shut ((Mine.hd.heap_1 w.params).In hb)) (Tb : Shut (Top pg lz mean mg mb hb))
   (h58 : Off2 la ∧ Off2 lc ∧ Off2 lr ∧ Off2 lm) (hA : TabS 51 55 4 qA oA cA ocA) (hB : TabS 58 70 4 qB oB cB ocB) (nAB : Shut (cA ≠ 58 ∧ cB ≠ 51))
   (N : News h₀ L s.heap [(na, PySem.W.listOf #[.int k0 n1, .int k1 n2] 0), (L + 1 + 1 + 1 + 1 + 1 + 1 + 1, oM), (L + 1 + 1 + 1 + 1 + 1 + 1, oU), (L + 1 + 1 + 1 + 1 + 1, oLo), (L + 1 + 1 + 1 + 1, oT), (L + 1 + 1 + 1, oH), (L + 1 + 1, oW), (L + 1, oG), (tv, tupO [.float H u1, .float S u2, .float V u3]), (la, lstO [.int x t1, .int y t2, .int z t3]), (lc, lstO [.int 4 c1, .int 6 c2, .int 2 c3, .int 3 c4, .int 1 c5, .int 5 c6]), (lr, LCg.lst [.ref r1, .ref r2, .ref r3, .ref r4, .ref r5, .ref r6]), (lm, LCg.lst [.float m1 d1, .float m2 d2, .float m3 d3, .float m4 d4, .float m5 d5, .float m6 d6]), (51, oA), (cA, ocA), (58, oB), (cB, ocB)])
   (dM : oM.data = .cell (some (.int (gI lw up) tm))) (dU : oU.data = .cell (some (.int up tu))) (dLo : oLo.data = .cell (some (.int lw tl))) (dT : oT.data = .cell (some (.ref tv)))
   (hm2 : m "ring" = some (.ref lr)) (hm6 : m "place" = some (.int p tp)) (hm7 : m "names" = some (.ref na))
   (hp : 0 ≤ p ∧ p ≤ 5) (hpn : 0 ≤ (p + 1).fmod 6 ∧ (p + 1).fmod 6 ≤ 5)
   (hlw : 1 ≤ lw ∧ lw ≤ 12) (hup : 1 ≤ up ∧ up ≤ 12) (lna : @LT.lt Nat _ (L + 1 + 1 + 1 + 1 + 1 + 1 + 1) na)
   (hr0 : [Value.ref r1, .ref r2, .ref r3, .ref r4, .ref r5, .ref r6][p.toNat]? = some (.ref rl)) (hr1 : [Value.ref r1, .ref r2, .ref r3, .ref r4, .ref r5, .ref r6][((p + 1).fmod 6).toNat]? = some (.ref rr))
   (z1 : h₀.get? rl = some (l.tup da e1 e2 e3 e4) ∧ hb.get? rl = none) (z2 : h₀.get? rr = some (u.tup db e5 e6 e7 e8) ∧ hb.get? rr = none) (z3 : h₀.get? da = some oa ∧ hb.get? da = none) (z4 : h₀.get? db = some ob ∧ hb.get? db = none)
   (hk : Shut (k0 ≠ k1)) (hne : Shut (da ≠ db)) (lo1 : (da == sysModules) = false) (lo2 : (db == sysModules) = false)
   (y1 : oa.IsDictOf (PySem.intKind PG w) ka) (y2 : DL k0 k1 l.p l.q ka) (y3 : ob.IsDictOf (PySem.intKind PG w) kb) (y4 : DR k0 k1 u.p u.q kb)
   (hl : Shut (0 ≤ l.p ∧ l.p ≤ 12 ∧ 0 ≤ l.q ∧ l.q ≤ 12 ∧ 0 ≤ u.p ∧ u.p ≤ 12 ∧ 0 ≤ u.q ∧ u.q ≤ 12))
   (hs : srch H 12 l u "" = some (md, lo', up', wd)) (he : eucF kf up lw "" true = some (wq, gI lw up)) (hw : Txt.slice wq none (some (-1)) = wd)
   (hF : ∀ (m' : Str → Option Value) (h' : Heap) (tk' : Nat) (mv dm dl du dl' du' : Addr) (om ol ou ol' ou' : Obj) (kl ku : List (Int × Value)) (a1 a2 a3 a4 a5 a6 : Tok) (oA' : Obj) (cA' : Addr) (ocA' : Obj) (oB' : Obj) (cB' : Addr) (ocB' : Obj), Fr h₀ L h' m' →
      News h₀ L h' [(mv, md.tup dm a1 a2 a3 a4), (dm, om), (dl', ol'), (du', ou'), (na, PySem.W.listOf #[.int k0 n1, .int k1 n2] 0), (L + 1 + 1 + 1 + 1 + 1 + 1 + 1, oM), (L + 1 + 1 + 1 + 1 + 1 + 1, oU), (L + 1 + 1 + 1 + 1 + 1, oLo), (L + 1 + 1 + 1 + 1, oT), (L + 1 + 1 + 1, oH), (L + 1 + 1, oW), (L + 1, oG), (tv, tupO [.float H u1, .float S u2, .float V u3]), (la, lstO [.int x t1, .int y t2, .int z t3]), (lc, lstO [.int 4 c1, .int 6 c2, .int 2 c3, .int 3 c4, .int 1 c5, .int 5 c6]), (lr, LCg.lst [.ref r1, .ref r2, .ref r3, .ref r4, .ref r5, .ref r6]), (lm, LCg.lst [.float m1 d1, .float m2 d2, .float m3 d3, .float m4 d4, .float m5 d5, .float m6 d6]), (51, oA'), (cA', ocA'), (58, oB'), (cB', ocB')] → Tk True tk' → Off L mv → Off L dm → Off L dl' → Off L du' → (h₀.get? dl = some ol ∨ (dl = dl' ∧ ol = ol')) → (h₀.get? du = some ou ∨ (du = du' ∧ ou = ou')) →
      (dm == sysModules) = false → (dl == sysModules) = false → (du == sysModules) = false → om.IsDictOf (PySem.intKind PG w) [(k0, .int md.p a5), (k1, .int md.q a6)] → ol.IsDictOf (PySem.intKind PG w) kl → DL k0 k1 lo'.p lo'.q kl → ou.IsDictOf (PySem.intKind PG w) ku → DR k0 k1 up'.p up'.q ku →
      TabS 51 55 4 qA oA' cA' ocA' → TabS 58 70 4 qB oB' cB' ocB' → Shut (cA' ≠ 58 ∧ cB' ≠ 51) → OffC L cA' → OffC L cB' → (cA ≠ 51 → cA' = cA ∧ ocA' = ocA) → (cB ≠ 58 → cB' = cB ∧ ocB' = ocB) →
      m' "found" = some (.ref mv) → m' "under" = some (.ref dl) → m' "over" = some (.ref du) → m' "names" = some (.ref na) →
      wpAny (model PySem.Challenge.rw_ph0126_01.row.prog w) ((ktrTop dp un gd cn cs L₀ a ccd cl outer).deeper (oneEnv scope L)) (execs (body.drop 17) (oneEnv scope L)) Qf Ef { s with heap := h', toks := tk' })
   : wpAny (model PySem.Challenge.rw_ph0126_01.row.prog w) ((ktrTop dp un gd cn cs L₀ a ccd cl outer).deeper (oneEnv scope L)) (execs (body.drop 15) (oneEnv scope L)) Qf Ef s := by
  revert X; k_fill; intro X
  conv at hI => lhs; whnf
  injection hI with hI
  injection hI with e1 e2
  injection e2 with e2 e3
  subst e1 e2 e3
  dsimp only [List.drop]
  (try k_fold)
  k_steps
  refine mark ?_
  rename News _ _ _ _ => N1; rename Fr _ _ _ _ => F1
  refine search_ok (frBase hsub hbs F1) Xb.out Tb.out (newsBase F1 z1 z2 z3 z4) hk hne lo1 lo2 y1 y2 y3 y4 hl.out (by ktr_room) hs ?_
  intro v mv dm dl du om ol ou kl ku h2 tk2 a5 a6 a1 a2 a3 a4 a7 K2 N5 nv nmv ndm cdl cdu lo3 lo4 lo5 q1 q2 q3 q4 q5
  have off : ∀ {d : Addr}, _ → Off L d := fun {d} n => Off.of N1 n (by k_mem) (by k_mem) (by k_mem) (by k_mem)
  have Omv := off nmv
  have Odm := off ndm
  have gv := (N5 _ (.head _)).1
  have gmv := (N5 _ (.tail _ (.head _))).1
  have gdm := (N5 _ (.tail _ (.tail _ (.head _)))).1
  have gdl := (N5 _ (.tail _ (.tail _ (.tail _ (.head _))))).1
  have gdu := (N5 _ (.tail _ (.tail _ (.tail _ (.tail _ (.head _)))))).1
  clear N5
  have Nmv := newsIn F1 nmv gmv News.nil
  obtain ⟨dl', ol', Ndl, Odl, Cdl⟩ := oldOrNew F1 K2 Nmv Omv off z3.1 gdl cdl
  obtain ⟨du', ou', Ndu, Odu, Cdu⟩ := oldOrNew F1 K2 Nmv Omv off z4.1 gdu cdu
  have F2 := frAfter0 F1 K2
  have N2 := newsIn F1 nv gv (newsIn F1 nmv gmv (newsIn F1 ndm gdm (newsCons Ndl (newsCons Ndu (newsAfter0 N1 K2)))))
  clear off nv nmv ndm cdl cdu gv gmv gdm gdl gdu Nmv Ndl Ndu K2 F1 N1
  dsimp only
  k_steps
  refine mark ?_
  rename News _ _ _ _ => N1; rename Fr _ _ _ _ => F1
  refine euc_ok F1 X T (fun p hp => N1 p (List.mem_append_right ([_, _, _, _, _, _, _, _, _, _, _, _, _, _, _, _, _, _] : List (Addr × Obj)) hp)) hA hB C1 C2 (by ktr_room) (by omega) (by omega) nAB he ?_
  intro v2 h3 tk3 b1 b2 oA' cA' ocA' oB' cB' ocB' K3 n3 g3 NT hA' hB' fA fB nAB' gA gB
  have OcA : OffC L cA' := fA.elim (fun e => e ▸ OffC.of l'.2.2.2.2.2.1) fun z => (Off.of N1 z (by k_mem) (by k_mem) (by k_mem) (by k_mem)).oc
  have OcB : OffC L cB' := fB.elim (fun e => e ▸ OffC.of l'.2.2.2.2.2.2.2) fun z => (Off.of N1 z (by k_mem) (by k_mem) (by k_mem) (by k_mem)).oc
  have NR : News h₀ L _ [(mv, md.tup dm a1 a2 a3 a4), (dm, om), (dl', ol'), (du', ou'), (na, PySem.W.listOf #[.int k0 n1, .int k1 n2] 0), (L + 1 + 1 + 1 + 1 + 1 + 1 + 1, oM), (L + 1 + 1 + 1 + 1 + 1 + 1, oU), (L + 1 + 1 + 1 + 1 + 1, oLo), (L + 1 + 1 + 1 + 1, oT), (L + 1 + 1 + 1, oH), (L + 1 + 1, oW), (L + 1, oG), (tv, tupO [.float H u1, .float S u2, .float V u3]), (la, lstO [.int x t1, .int y t2, .int z t3]), (lc, lstO [.int 4 c1, .int 6 c2, .int 2 c3, .int 3 c4, .int 1 c5, .int 5 c6]), (lr, LCg.lst [.ref r1, .ref r2, .ref r3, .ref r4, .ref r5, .ref r6]), (lm, LCg.lst [.float m1 d1, .float m2 d2, .float m3 d3, .float m4 d4, .float m5 d5, .float m6 d6])] := fun p hp => N1 p (.tail _ (List.mem_append_left [(51, oA), (cA, ocA), (58, oB), (cB, ocB)] hp))
  have NT0 : NoTab [(mv, md.tup dm a1 a2 a3 a4), (dm, om), (dl', ol'), (du', ou'), (na, PySem.W.listOf #[.int k0 n1, .int k1 n2] 0), (L + 1 + 1 + 1 + 1 + 1 + 1 + 1, oM), (L + 1 + 1 + 1 + 1 + 1 + 1, oU), (L + 1 + 1 + 1 + 1 + 1, oLo), (L + 1 + 1 + 1 + 1, oT), (L + 1 + 1 + 1, oH), (L + 1 + 1, oW), (L + 1, oG), (tv, tupO [.float H u1, .float S u2, .float V u3]), (la, lstO [.int x t1, .int y t2, .int z t3]), (lc, lstO [.int 4 c1, .int 6 c2, .int 2 c3, .int 3 c4, .int 1 c5, .int 5 c6]), (lr, LCg.lst [.ref r1, .ref r2, .ref r3, .ref r4, .ref r5, .ref r6]), (lm, LCg.lst [.float m1 d1, .float m2 d2, .float m3 d3, .float m4 d4, .float m5 d5, .float m6 d6])] := by
    refine ⟨⟨Omv.o51, Omv.o58⟩, ⟨Odm.o51, Odm.o58⟩, ⟨Odl.o51, Odl.o58⟩, ⟨Odu.o51, Odu.o58⟩, ?_⟩
    repeat' apply And.intro
    all_goals first | trivial | exact h58.1.o51 | exact h58.1.o58 | exact h58.2.1.o51 | exact h58.2.1.o58 | exact h58.2.2.1.o51 | exact h58.2.2.1.o58 | exact h58.2.2.2.o51 | exact h58.2.2.2.o58 | (show @Ne Nat _ _; dsimp only; omega)
  have F3 := frAfter F1 N1 (ms := [51, 58]) (by
    intro b hb
    simp only [List.mem_cons, List.not_mem_nil, or_false] at hb
    rcases hb with rfl | rfl
    · exact ⟨oA, by k_mem⟩
    · exact ⟨oB, by k_mem⟩) K3
  have N3 := newsIn F1 n3 g3 (newsApp (newsAfter NR NT0.out K3) NT)
  simp only [List.cons_append, List.nil_append] at N3
  clear NR NT0 NT n3 g3 K3 fA fB F1 N1
  dsimp only
  k_steps
  refine mark ?_
  rename News _ _ _ _ => N1; rename Fr _ _ _ _ => F1
  refine neT (tupAt N1 (by k_mem)) (tupAt N1 (by k_mem)) (by ktr_units) ?he ?_
  case he => exact ⟨eqS_at hw, eqI_at rfl, trivial⟩
  k_steps
  refine mark ?_
  rename News _ _ _ _ => N1; rename Fr _ _ _ _ => F1
  refine hF _ _ _ mv dm dl du dl' du' _ _ _ _ _ _ _ _ _ _ _ _ _ _ _ _ _ _ _ F1 (fun p hp => N1 p (.tail _ (.tail _ hp))) (by walk_at "mine tk") Omv Odm Odl Odu Cdl Cdu lo3 lo4 lo5 q1 q2 q3 q4 q5 hA' hB' nAB' OcA OcB gA gB rfl rfl rfl hm7
end
end
/-! text Mo4 -/
section
theorem linesMo4x1 : True := by
  k_with_none
  k_with "mine enter" => ((refine' enter ?k2z321 ?k3z321 ?k4z321 ?k5z321 ?k6z321 ?k7z321 ?k8z321 ?k9z321 ?kBz321 ?_ ?c2z321 ?c3z321 ?c4z321 ?c5z321; (case k2z321 => k_asm); (case k3z321 => k_asm); (case k4z321 => k_asm); (case k5z321 => k_asm); (case k6z321 => k_is); (case k7z321 => k_is); (case k8z321 => ktr_room); (case k9z321 => exact BindsTo.of_eq rfl); (case c5z321 => decide); (case kBz321 => exact locs rfl); (case c2z321 => exact rfl); (case c3z321 => exact rfl); (case c4z321 => exact rfl); k_whole))
  k_with "mine keeps" => (((with_reducible rename Keeps _ _ _ => kK); (have F' := frAfter0 (by k_asm) kK); (have N' := newsAfter0 (by k_asm) kK); clear kK; (try k_sweep)))
  k_with "mine made" => (((with_reducible rename Keeps _ _ _ => kK); rename (Heap.get? _ _ = none) => kn; rename (Heap.get? _ _ = some _) => ks; (have l1 := allNe_of (by k_asm) kn); (have N' := newsIn (by k_asm) kn ks (newsAfter0 (by k_asm) kK)); (have F' := frAfter0 (by k_asm) kK); clear kK kn ks; (try k_sweep)))
  trivial
variable {pg : Program} {lz : List Str} {w : World} {mean : ExcName → Option Value} {mg mb : Str → Option Value}
   {dp un : Nat} {gd : Option (List Code)} {cn : Str} {cs : Scope} {a : Addr} {ccd : Value} {cl : List (Str × Addr)} {outer : List Env} {h₀ : Heap} {L : Addr} {m : Str → Option Value} {s : Shared} {Q E : Value → Shared → Prop}
section
variable {prog : Program} {A : Around} {news : List (Addr × Obj)}
theorem adjust_upto (b n : Nat) (hb : b ≤ n) : Builtin.Slice.sliceAdjust none (some (b : Int)) 1 (n : Int) = (0, (b : Int)) := by
  unfold Builtin.Slice.sliceAdjust
  have h1 : ¬ ((1 : Int) < 0) := by omega
  have h2 : ¬ ((b : Int) < 0) := by omega
  simp only [h1, h2, if_false]
  congr 1
  omega
theorem places_upto (b : Nat) : Builtin.Slice.slicePlaces 0 (b : Int) 1 = b := by
  unfold Builtin.Slice.slicePlaces
  have h1 : (1 : Int) > 0 := by omega
  simp only [h1, if_true, Int.ediv_one]
  split <;> omega
theorem sliceApplied_upto {sl : Addr} {b n : Nat} {u : Tok} {Q : Int × Int × Nat → Shared → Prop} (hs : s.heap.IsSliceOf sl .none (.int b u) .none) (hb : b ≤ n) (h : Q (0, 1, b) s) :
    wpAny (model prog w) A (Builtin.Slice.sliceApplied (.ref sl) (pure (n : Int))) Q E s := by
  obtain ⟨os, hos, hcs, hds⟩ := id hs
  unfold Builtin.Slice.sliceApplied Builtin.Slice.sliceFields
  refine wpAny_bind (wpAny_bind (wpAny_field hos hds (x := .none) rfl (wpAny_bind (wpAny_field hos hds (x := .int b u) rfl (wpAny_bind (wpAny_field hos hds (x := .none) rfl (wpAny_pure ?_)))))))
  refine wpAny_bind (slicePart_none ?_)
  show wpAny _ _ (if ((1 : Int) == 0) = true then _ else _) _ _ s
  rw [if_neg (by decide)]
  refine wpAny_bind (slicePart_none (wpAny_bind (slicePart_int (wpAny_bind (wpAny_pure ?_)))))
  show wpAny _ _ (match Builtin.Slice.sliceAdjust none (some (b : Int)) 1 (n : Int) with | (lo, hi) => pure (lo, (1 : Int), Builtin.Slice.slicePlaces lo hi 1)) _ _ s
  rw [adjust_upto b n hb]
  show wpAny _ _ (pure ((0 : Int), (1 : Int), Builtin.Slice.slicePlaces 0 (b : Int) 1)) _ _ s
  rw [places_upto b]
  exact wpAny_pure h
theorem getItem_tuple_upto {t sl : Addr} {items : Array Value} {ws : List Value} {b : Nat} {u : Tok} (ht : IsTup s.heap t items) (hs : s.heap.IsSliceOf sl .none (.int b u) .none) (hb : b < items.size)
    (hw : ((List.range b).filterMap fun (k : Nat) => items[((0 : Int) + (k : Int) * 1).toNat]?) = ws)
    (h : Q (.ref s.heap.objs.size) { s with heap := s.heap.push (tupO ws) })
    (hsz : ws.length ≤ sizeLine) : wpAny (model prog w) A (getItem (.ref t) (.ref sl)) Q E s := by
  have hdrop : sizeOk (.seq ws.toArray) := by
    show ws.toArray.size ≤ sizeLine
    rw [List.size_toArray]; exact hsz
  obtain ⟨os, hos, hcs, hds⟩ := id hs
  have hTs : s.TypeIs (.ref sl) "slice" := ⟨os, hos, hcs⟩
  unfold getItem
  try with_reducible refine wpAny_holding ?_
  first | refine wpAny_bind (wpAny_pure ?_) | skip
  refine wpAny_bind (wpAny_sequenceKey ht.typeIs (by decide) ?_)
  refine wpAny_bind (wpAny_callSpecial?_slot (name := Str.ofString "__getitem__") ht.typeIs slot_tuple_getitem
    (wpAny_call_entry slot_tuple_getitem ht.typeIs entry_tuple_getitem ?_ (args_tuple_getitem _ _)))
  show wpAny _ _ (Builtin.Tuple.tupleItemsOf (.ref t) >>= _) _ _ s
  refine wpAny_bind (tupleItemsOf_ ht ?_)
  refine wpAny_bind (wpAny_typeOf hTs ?_)
  rw [if_pos (by decide)]
  refine wpAny_bind (sliceApplied_upto hs (Nat.le_of_lt hb) ?_)
  have hno : ¬ (((0 : Int) == 0 && (1 : Int) == 1 && b == items.size) = true) := by
    have : (b == items.size) = false := by rw [beq_eq_false_iff_ne]; omega
    rw [this]; simp
  show wpAny _ _ (if ((0 : Int) == 0 && (1 : Int) == 1 && b == items.size) = true then _ else _) _ _ s
  rw [if_neg hno, hw]
  first
    | exact wpAny_bind (m := Builtin.Tuple.tupleExact _) (wpAny_newObj_type (wpAny_pure ⟨_, rfl, wpAny_pure h⟩) hdrop)
    | exact wpAny_bind (m := Builtin.Tuple.tupleExact _) (wpAny_newObj_type (wpAny_bind (wpAny_pure (wpAny_pure ⟨_, rfl, wpAny_pure h⟩))) hdrop)
    | exact wpAny_bind (wpAny_bind (m := Builtin.Tuple.tupleExact _) (wpAny_newObj_type (wpAny_pure (wpAny_pure ⟨_, rfl, wpAny_pure h⟩)) hdrop))
    | exact wpAny_bind (wpAny_bind (m := Builtin.Tuple.tupleExact _) (wpAny_newObj_type (wpAny_pure ⟨_, rfl, wpAny_pure h⟩) hdrop))
theorem slice_tuple_upto {value slice : PySem.Expr} {t : Addr} {vs ws : List Value} {b : Nat} {u : Tok}
    (F : Fr h₀ L s.heap m) (N : News h₀ L s.heap news) (hm : (t, tupO vs) ∈ news) (hb : b < vs.toArray.size)
    (hw : ((List.range b).filterMap fun (k : Nat) => vs.toArray[((0 : Int) + (k : Int) * 1).toNat]?) = ws) (hsz : ws.length ≤ sizeLine)
    (h : ∀ D h', Fr h₀ L h' m → News h₀ L h' ((D, tupO ws) :: news) → (∀ q ∈ news, q.1 < D) → Q (.ref D) { s with heap := h' })
    (hs : subscripted slice false (.ref t) (.ref s.heap.objs.size) = operate [.ref s.heap.objs.size, .ref t] (getItem (.ref t) (.ref s.heap.objs.size)) := by with_unfolding_all rfl)
    (hg : ∀ r, letTemporaryGo value (.ref t) r = pure () := by intro _; with_unfolding_all rfl) :
    wpAny (model prog w) A (subscriptTail value slice (.ref t) (.ref s.heap.objs.size)) Q E { s with heap := s.heap.push { cls := .type "slice", data := .fields #[.none, .int b u, .none] } } := by
  have ht : IsTup s.heap t vs.toArray := tupAt N hm
  have ht' : IsTup (s.heap.push { cls := .type "slice", data := .fields #[.none, .int b u, .none] }) t vs.toArray := ht.keeps fun _ _ e => Heap.get?_push_of_some _ e
  refine subscriptTail_ops (s := { s with heap := s.heap.push { cls := .type "slice", data := .fields #[.none, .int b u, .none] } }) ht'.typeIs slot_tuple_getitem.lookup
    (getItem_tuple_upto ht' (Heap.IsSliceOf.new ..) hb hw ?_ hsz) hs hg
  have N1 := News.push (F.push { cls := .type "slice", data := .fields #[.none, .int b u, .none] }) (N.grown fun _ _ e => Heap.get?_push_of_some _ e) (tupO ws)
  rw [Heap.size_push] at N1
  show Q (.ref (s.heap.push _).objs.size) _
  rw [Heap.size_push]
  exact h _ _ ((F.push _).push _) N1 fun p hp => Nat.lt_succ_of_lt (Heap.lt_size (N p hp).1)
end
end
/-! text Mh1 -/
section
theorem linesMh1x1 : True := by
  k_with_none
  k_with "mine enter" => ((refine' enter ?k2z324 ?k3z324 ?k4z324 ?k5z324 ?k6z324 ?k7z324 ?k8z324 ?k9z324 ?kBz324 ?_ ?c2z324 ?c3z324 ?c4z324 ?c5z324; (case k2z324 => k_asm); (case k3z324 => k_asm); (case k4z324 => k_asm); (case k5z324 => k_asm); (case k6z324 => k_is); (case k7z324 => k_is); (case k8z324 => ktr_room); (case k9z324 => exact BindsTo.of_eq rfl); (case c5z324 => decide); (case kBz324 => exact locs rfl); (case c2z324 => exact rfl); (case c3z324 => exact rfl); (case c4z324 => exact rfl); k_whole))
  k_with "mine keeps" => (((with_reducible rename Keeps _ _ _ => kK); (have F' := frAfter0 (by k_asm) kK); (have N' := newsAfter0 (by k_asm) kK); clear kK; (try k_sweep)))
  k_with "mine made" => (((with_reducible rename Keeps _ _ _ => kK); rename (Heap.get? _ _ = none) => kn; rename (Heap.get? _ _ = some _) => ks; (have l1 := allNe_of (by k_asm) kn); (have N' := newsIn (by k_asm) kn ks (newsAfter0 (by k_asm) kK)); (have F' := frAfter0 (by k_asm) kK); clear kK kn ks; (try k_sweep)))
  trivial
variable {pg : Program} {lz : List Str} {w : World} {mean : ExcName → Option Value} {mg mb : Str → Option Value}
   {dp un : Nat} {gd : Option (List Code)} {cn : Str} {cs : Scope} {a : Addr} {ccd : Value} {cl : List (Str × Addr)} {outer : List Env} {h₀ : Heap} {L : Addr} {m : Str → Option Value} {s : Shared} {Q E : Value → Shared → Prop}
theorem linesMh1x2 : True := by
  k_with "mine tk" => (((try dsimp only); first | with_reducible assumption | ((repeat (with_reducible refine Tk.add _ ?_)); with_reducible assumption) | exact Tk.succ | fail "mine: tk"))
  k_with "exec Assign" => (((fail_if_success (with_reducible show wpAny _ _ _ (UpQ _ _) _ _)); refine wpUp (by walk_at "mine tk") ?_))
  k_with "exec If" => (((fail_if_success (with_reducible show wpAny _ _ _ (UpQ _ _) _ _)); refine wpUp (by walk_at "mine tk") ?_))
  k_with "execs cons" => (((with_reducible show wpAny _ _ _ _ _ (Shared.mk _ _ _ (HAdd.hAdd _ _) _)); (refine genTk (by walk_at "mine tk") ?_); intro tk' hTk'; (try dsimp only)))
  k_with "UpQ" => ((refine UpQ.mk ?_; intro hTk'; (try dsimp only at hTk'); (try dsimp only)))
  k_with "loadName" => ((k_here; k_dflt (refine' ldnE ?k1z332 ?kLz332 ?k2z332 ?_; (case k1z332 => k_asm); (case kLz332 => exact rfl); (case k2z332 => first | exact rfl | assumption | fail "no"); k_whole)))
  k_with "eval Name" => ((k_here; k_dflt (refine' ldE ?k1z333 ?kLz333 ?k2z333 ?_; (case k1z333 => k_asm); (case kLz333 => exact rfl); (case k2z333 => first | exact rfl | assumption | fail "no"); k_whole)))
  k_with "mine eq1" => (first | exact eqI_at (by first | rfl | with_reducible assumption | omega) | exact eqF_at (by first | with_reducible assumption | exact Eq.symm (by with_reducible assumption)) (by walk_at "mine tk") (by walk_at "mine tk") (by exact noneBooked (by k_asm) (by k_asm) (by k_asm)) | exact eqS_at (by first | rfl | with_reducible assumption))
  k_with "mine eql" => (((try simp only [EqL, and_true]); (repeat' apply And.intro); all_goals walk_at "mine eq1"))
  k_with "compareOp Eq ref ref" => ((k_here; k_dflt (refine' eqT ?hlz336 ?hbz336 ?huz336 ?hez336 ?_; (case hlz336 => exact tupAt (by k_asm) (by k_mem)); (case hbz336 => exact tupAt (by k_asm) (by k_mem)); (case huz336 => ktr_units); (case hez336 => walk_at "mine eql"))))
  k_with "compareOp NotEq ref ref" => ((k_here; k_dflt (refine' neT ?hlz337 ?hbz337 ?huz337 ?hez337 ?_; (case hlz337 => exact tupAt (by k_asm) (by k_mem)); (case hbz337 => exact tupAt (by k_asm) (by k_mem)); (case huz337 => ktr_units); (case hez337 => walk_at "mine eql"))))
  k_with "subscriptTail Name Name ref int" => ((k_here; (with_reducible show wpAny _ _ (subscriptTail _ _ (Value.ref _) (Value.int _ _)) _ _ _); k_dflt (refine' itemAt ?Nz338 ?mz338 ?xz338 ?_ ?sz338; (case Nz338 => k_asm); (case mz338 => k_mem); (case xz338 => exact ⟨by omega, by omega, by with_reducible assumption⟩); (case sz338 => with_unfolding_all rfl))))
  k_with "subscriptTail Name BinOp ref int" => ((k_here; (with_reducible show wpAny _ _ (subscriptTail _ _ (Value.ref _) (Value.int _ _)) _ _ _); k_dflt (refine' itemAt ?Nz339 ?mz339 ?xz339 ?_ ?sz339; (case Nz339 => k_asm); (case mz339 => k_mem); (case xz339 => exact ⟨by omega, by omega, by with_reducible assumption⟩); (case sz339 => with_unfolding_all rfl))))
  k_with "exec Assign cons Dict" => (((fail_if_success (with_reducible show wpAny _ _ _ (UpQ _ _) _ _)); refine wpUp (by walk_at "mine tk") ?_))
  k_with "exec Assign cons ListComp" => (((fail_if_success (with_reducible show wpAny _ _ _ (UpQ _ _) _ _)); refine wpUp (by walk_at "mine tk") ?_))
  k_with "exec Assign cons Call" => (((fail_if_success (with_reducible show wpAny _ _ _ (UpQ _ _) _ _)); refine wpUp (by walk_at "mine tk") ?_))
  k_with "exec Assign cons" => (((fail_if_success (with_reducible show wpAny _ _ _ (UpQ _ _) _ _)); refine wpUp (by walk_at "mine tk") ?_))
  trivial
noncomputable def Stop1 : Prop := True
theorem ints4 {vs : List Value} {a b c d : Int} (h : IntsAre vs [a, b, c, d]) : ∃ t u v w, vs = [.int a t, .int b u, .int c v, .int d w] := by
  cases h with | cons _ t h => cases h with | cons _ u h => cases h with | cons _ v h => cases h with | cons _ w h => cases h; exact ⟨t, u, v, w, rfl⟩
theorem ints3 {vs : List Value} {a b c : Int} (h : IntsAre vs [a, b, c]) : ∃ t u v, vs = [.int a t, .int b u, .int c v] := by
  cases h with | cons _ t h => cases h with | cons _ u h => cases h with | cons _ v h => cases h; exact ⟨t, u, v, rfl⟩
section
theorem linesMh1x3 : True := by
  k_with "call ref" => (refine ofMark ?_)
  k_with "compareOp NotEq ref ref" => (refine ofMark ?_)
  k_with "binaryOp Add ref ref" => ((with_reducible rename Stop1 => kS; clear kS; refine ofMark ?_))
  k_with "compareOp NotEq int int" => (refine ofMark ?_)
  k_with "execs cons" => (((with_reducible show wpAny _ _ (execs (Stmt.If (Expr.Compare (Expr.Call (Expr.Name (Str.ofString "int_divmod") _) _ _ _) _ _ _) _ _ _ :: _) _) _ _ _); refine ofMark ?_))
  k_with "binaryOp Div int int" => (((with_reducible show wpAny _ _ (binaryOp _ (Value.int _ _) (Value.int 16 _)) _ _ _); refine div16 rfl (by (try simp); omega) ?_; (try dsimp only)))
  k_with "binaryOp FloorDiv int int" => ((refine floordiv_int (by omega) ?_; dsimp only))
  trivial
local macro_rules | `(tactic| k_ne) => `(tactic| first | exact neN (Off.lo (by with_reducible assumption)) | exact neN (Off.up (by with_reducible assumption)) | exact neN (Ne.symm (Off.lo (by with_reducible assumption))) | exact neN (Ne.symm (Off.up (by with_reducible assumption))) | exact neN (OffC.lo (by with_reducible assumption)) | exact neN (OffC.up (by with_reducible assumption)) | exact neN (Ne.symm (OffC.lo (by with_reducible assumption))) | exact neN (Ne.symm (OffC.up (by with_reducible assumption))) | fail "no")
set_option maxHeartbeats 4000000 in
theorem segH {L₀ : Addr} {x y z : Int} {H S V : UInt64} {la lc lr lm tv : Addr} {t1 t2 t3 c1 c2 c3 c4 c5 c6 d1 d2 d3 d4 d5 d6 u1 u2 u3 : Tok} {m1 m2 m3 m4 m5 m6 : UInt64} {r1 r2 r3 r4 r5 r6 : Addr} {oM oU oLo oT oH oW oG : Obj} {oA : Obj} {cA : Addr} {ocA : Obj} {oB : Obj} {cB : Addr} {ocB : Obj}
   {params : Arguments} {body : List Stmt} {scope : Scope} {Qf : Flow → Shared → Prop} {Ef : Value → Shared → Prop} {lo hi : Int} {tlo thi : Tok} {k0 k1 lw up g : Int} {n1 n2 tl tu tm tp : Tok} {na : Addr} {md : Ent} {mv dm dl' du' : Addr} {om ol' ou' : Obj} {a1 a2 a3 a4 a5 a6 : Tok}
   (hI : oneDef = some (params, body, scope)) (F : Fr h₀ L s.heap m) (X : (Mine.hd.heap_1 w.params).In h₀) (T : Top pg lz mean mg mb h₀)
   (C1 : CodeHd h₀ 55 51) (C2 : CodeHd h₀ 62 58) (hd : dp + 30 < recursionLimit) (hun : un + 1000 < cLine) (hTk : Tk True s.toks)
   (l' : @LT.lt Nat _ la L ∧ @LT.lt Nat _ lc L ∧ @LT.lt Nat _ lr L ∧ @LT.lt Nat _ lm L ∧ @LT.lt Nat _ 51 L ∧ @LT.lt Nat _ 58 L) (ltv : @LT.lt Nat _ (L + 1 + 1 + 1 + 1 + 1 + 1 + 1) tv)
   (N : News h₀ L s.heap [(mv, md.tup dm a1 a2 a3 a4), (dm, om), (dl', ol'), (du', ou'), (na, PySem.W.listOf #[.int k0 n1, .int k1 n2] 0), (L + 1 + 1 + 1 + 1 + 1 + 1 + 1, oM), (L + 1 + 1 + 1 + 1 + 1 + 1, oU), (L + 1 + 1 + 1 + 1 + 1, oLo), (L + 1 + 1 + 1 + 1, oT), (L + 1 + 1 + 1, oH), (L + 1 + 1, oW), (L + 1, oG), (tv, tupO [.float H u1, .float S u2, .float V u3]), (la, lstO [.int x t1, .int y t2, .int z t3]), (lc, lstO [.int 4 c1, .int 6 c2, .int 2 c3, .int 3 c4, .int 1 c5, .int 5 c6]), (lr, LCg.lst [.ref r1, .ref r2, .ref r3, .ref r4, .ref r5, .ref r6]), (lm, LCg.lst [.float m1 d1, .float m2 d2, .float m3 d3, .float m4 d4, .float m5 d5, .float m6 d6]), (51, oA), (cA, ocA), (58, oB), (cB, ocB)]) (O1 : Off L mv) (O2 : Off L dm) (O3 : Off L dl') (O4 : Off L du') (O5 : OffC L cA) (O6 : OffC L cB)
   (dM : oM.data = .cell (some (.int g tm))) (dU : oU.data = .cell (some (.int up tu))) (dLo : oLo.data = .cell (some (.int lw tl))) (dT : oT.data = .cell (some (.ref tv))) (dH : oH.data = .cell (some (.int hi thi))) (dW : oW.data = .cell (some (.int lo tlo))) (dG : oG.data = .cell (some (.ref la)))
   (hm7 : m "names" = some (.ref na)) (hm8 : m "found" = some (.ref mv))
   (hlw : 1 ≤ lw ∧ lw ≤ 12) (hup : 1 ≤ up ∧ up ≤ 12) (hg : 1 ≤ g ∧ g ≤ 12) (hx : 0 ≤ x ∧ x ≤ 12 ∧ 0 ≤ y ∧ y ≤ 12 ∧ 0 ≤ z ∧ z ≤ 12) (hlo : 0 ≤ lo ∧ lo ≤ 12) (hhi : 0 ≤ hi ∧ hi ≤ 12) (lna : @LT.lt Nat _ (L + 1 + 1 + 1 + 1 + 1 + 1 + 1) na)
   (lo3 : (dm == sysModules) = false) (q1 : om.IsDictOf (PySem.intKind PG w) [(k0, .int md.p a5), (k1, .int md.q a6)]) (hk : Shut (k0 ≠ k1))
   (g1 : md.r = (x - lo).fdiv g) (g2 : md.g = (y - lo).fdiv g) (g3 : md.b = (z - lo).fdiv g) (g4 : md.n = (hi - lo).fdiv g) (g5 : md.p = lw.fdiv g) (g6 : md.q = up.fdiv g) (g7 : md.p + md.q = md.n)
   (hmd : 0 ≤ md.r ∧ md.r ≤ 12 ∧ 0 ≤ md.g ∧ md.g ≤ 12 ∧ 0 ≤ md.b ∧ md.b ≤ 12) (hmn : 0 ≤ md.n ∧ md.n ≤ 12) (hok : hsvOk (dF md.r) (dF md.g) (dF md.b) = true) (hu1 : Tk True u1)
   (f2 : eqF (hueF (dF md.r) (dF md.g) (dF md.b)) H = true) (f3 : eqF (satF (dF md.r) (dF md.g) (dF md.b)) 4607182418800017408 = true) (f4 : eqF (max3F (dF md.r) (dF md.g) (dF md.b)) (dF md.n) = true)
   (hF : ∀ (h' : Heap) (tk' : Nat) (oU' oLo' : Obj) (tl tu : Tok), Fr h₀ L h' m → News h₀ L h' [(mv, md.tup dm a1 a2 a3 a4), (dm, om), (dl', ol'), (du', ou'), (na, PySem.W.listOf #[.int k0 n1, .int k1 n2] 0), (L + 1 + 1 + 1 + 1 + 1 + 1 + 1, oM), (L + 1 + 1 + 1 + 1 + 1 + 1, oU'), (L + 1 + 1 + 1 + 1 + 1, oLo'), (L + 1 + 1 + 1 + 1, oT), (L + 1 + 1 + 1, oH), (L + 1 + 1, oW), (L + 1, oG), (tv, tupO [.float H u1, .float S u2, .float V u3]), (la, lstO [.int x t1, .int y t2, .int z t3]), (lc, lstO [.int 4 c1, .int 6 c2, .int 2 c3, .int 3 c4, .int 1 c5, .int 5 c6]), (lr, LCg.lst [.ref r1, .ref r2, .ref r3, .ref r4, .ref r5, .ref r6]), (lm, LCg.lst [.float m1 d1, .float m2 d2, .float m3 d3, .float m4 d4, .float m5 d5, .float m6 d6]), (51, oA), (cA, ocA), (58, oB), (cB, ocB)] → Tk True tk' → oU'.data = .cell (some (.int (up.fdiv g) tu)) → oLo'.data = .cell (some (.int (lw.fdiv g) tl)) →
      wpAny (model PySem.Challenge.rw_ph0126_01.row.prog w) ((ktrTop dp un gd cn cs L₀ a ccd cl outer).deeper (oneEnv scope L)) (execs (body.drop 22) (oneEnv scope L)) Qf Ef { s with heap := h', toks := tk' })
   : wpAny (model PySem.Challenge.rw_ph0126_01.row.prog w) ((ktrTop dp un gd cn cs L₀ a ccd cl outer).deeper (oneEnv scope L)) (execs (body.drop 17) (oneEnv scope L)) Qf Ef s := by
  revert X; k_fill; intro X
  conv at hI => lhs; whnf
  injection hI with hI
  injection hI with e1 e2
  injection e2 with e2 e3
  subst e1 e2 e3
  dsimp only [List.drop]
  (try k_fold)
  k_steps
  rename News _ _ _ _ => N1; rename Fr _ _ _ _ => F1
  refine slice_tuple_upto (b := 4) (ws := [.int md.r a1, .int md.g a2, .int md.b a3, .int md.n a4]) F1 N1 (by k_mem) (Nat.le_of_ble_eq_true rfl) rfl (Nat.le_of_ble_eq_true rfl) ?_
  intro D h2 F2 N2 l2
  clear F1 N1
  dsimp only
  have kS : Stop1 := True.intro
  k_steps
  refine mark ?_
  rename IntsAre _ _ => i3
  obtain ⟨w1, w2, w3, rfl⟩ := ints3 i3
  clear i3
  k_steps
  refine mark ?_
  rename News _ _ _ _ => N1; rename Fr _ _ _ _ => F1
  refine neT (tupAt N1 (by k_mem)) (tupAt N1 (by k_mem)) (by ktr_units) ?he1 ?_
  case he1 => exact ⟨eqI_at g1, eqI_at g2, eqI_at g3, eqI_at g4, trivial⟩
  have f1 := flat2 k0 md.p k1 md.q a5 a6
  replace N1 : News h₀ L _ [(mv, md.tup dm a1 a2 a3 a4), (dm, om), (dl', ol'), (du', ou'), (na, PySem.W.listOf #[.int k0 n1, .int k1 n2] 0), (L + 1 + 1 + 1 + 1 + 1 + 1 + 1, oM), (L + 1 + 1 + 1 + 1 + 1 + 1, _), (L + 1 + 1 + 1 + 1 + 1, _), (L + 1 + 1 + 1 + 1, oT), (L + 1 + 1 + 1, oH), (L + 1 + 1, oW), (L + 1, oG), (tv, tupO [.float H u1, .float S u2, .float V u3]), (la, lstO [.int x t1, .int y t2, .int z t3]), (lc, lstO [.int 4 c1, .int 6 c2, .int 2 c3, .int 3 c4, .int 1 c5, .int 5 c6]), (lr, LCg.lst [.ref r1, .ref r2, .ref r3, .ref r4, .ref r5, .ref r6]), (lm, LCg.lst [.float m1 d1, .float m2 d2, .float m3 d3, .float m4 d4, .float m5 d5, .float m6 d6]), (51, oA), (cA, ocA), (58, oB), (cB, ocB)] := fun p hp => N1 p (.tail _ (.tail _ (.tail _ (.tail _ (.tail _ hp)))))
  k_steps
  refine mark ?_
  rename News _ _ _ _ => N1; rename Fr _ _ _ _ => F1
  refine neLs (lstAt2 N1 (by k_mem)) (lstAt2 N1 (by k_mem)) (by ktr_units) ?he2 ?_
  case he2 =>
    refine ⟨eqR_at ?a1 (tupAt N1 (by k_mem)) (tupAt N1 (by k_mem)) ?b1 ?d1, eqR_at ?a2 (tupAt N1 (by k_mem)) (tupAt N1 (by k_mem)) ?b2 ?d2, trivial⟩
    case a1 => k_ne
    case a2 => k_ne
    case b1 => ktr_units
    case b2 => ktr_units
    case d1 => exact ⟨eqI_at rfl, eqI_at g5, trivial⟩
    case d2 => exact ⟨eqI_at rfl, eqI_at g6, trivial⟩
  replace N1 : News h₀ L _ [(mv, md.tup dm a1 a2 a3 a4), (dm, om), (dl', ol'), (du', ou'), (na, PySem.W.listOf #[.int k0 n1, .int k1 n2] 0), (L + 1 + 1 + 1 + 1 + 1 + 1 + 1, oM), (L + 1 + 1 + 1 + 1 + 1 + 1, _), (L + 1 + 1 + 1 + 1 + 1, _), (L + 1 + 1 + 1 + 1, oT), (L + 1 + 1 + 1, oH), (L + 1 + 1, oW), (L + 1, oG), (tv, tupO [.float H u1, .float S u2, .float V u3]), (la, lstO [.int x t1, .int y t2, .int z t3]), (lc, lstO [.int 4 c1, .int 6 c2, .int 2 c3, .int 3 c4, .int 1 c5, .int 5 c6]), (lr, LCg.lst [.ref r1, .ref r2, .ref r3, .ref r4, .ref r5, .ref r6]), (lm, LCg.lst [.float m1 d1, .float m2 d2, .float m3 d3, .float m4 d4, .float m5 d5, .float m6 d6]), (51, oA), (cA, ocA), (58, oB), (cB, ocB)] := fun p hp => N1 p (.tail _ (.tail _ (.tail _ (.tail _ (.tail _ (.tail _ (.tail _ hp)))))))
  k_steps
  refine mark ?_
  rename News _ _ _ _ => N1; rename Fr _ _ _ _ => F1
  refine wpUp (P := True) (by walk_at "mine tk") ?_
  refine count_ok F1 X T (news1 N1 (by k_mem)) lo3 q1 (by ktr_room) ?_
  intro h2 tk2 uc K2
  refine UpQ.mk ?_
  intro hTk2
  have F2 := frAfter0 F1 K2
  have N2 := newsAfter0 N1 K2
  clear K2 F1 N1
  dsimp only at hTk2
  dsimp only
  k_steps
  refine mark ?_
  refine ne_int ?_
  rw [show (md.p + md.q != md.n) = false by rw [g7]; exact bne_self_eq_false _]
  k_steps
  refine mark ?_
  rename News _ _ _ _ => N1; rename Fr _ _ _ _ => F1
  refine wpUp (P := True) (by walk_at "mine tk") ?_
  refine toldT_okT F1 X T (news1 N1 (by k_mem)) (by ktr_room) (Z := True) (by walk_at "mine tk") hmd hok ?_
  intro v h2 tk2 u4 u5 u6 hTu K2 nv gv
  refine UpQ.mk ?_
  intro hTk3
  obtain ⟨hTu4, hTu5, hTu6⟩ := hTu
  have F2 := frAfter0 F1 K2
  have N2 := newsIn F1 nv gv (newsAfter0 N1 K2)
  clear K2 nv gv F1 N1
  dsimp only at hTk3
  dsimp only
  k_steps
  refine mark ?_
  rename News _ _ _ _ => N1; rename Fr _ _ _ _ => F1
  refine neT (tupAt N1 (by k_mem)) (tupAt N1 (by k_mem)) (by ktr_units) ?he3 ?_
  case he3 => exact ⟨eqF_at f2 (by walk_at "mine tk") (by walk_at "mine tk") (noneBooked F1 X T), eqF_at f3 (by walk_at "mine tk") (by walk_at "mine tk") (noneBooked F1 X T), eqF_at f4 (by walk_at "mine tk") (by walk_at "mine tk") (noneBooked F1 X T), trivial⟩
  k_steps
  refine mark ?_
  rename News _ _ _ _ => N1; rename Fr _ _ _ _ => F1
  exact hF _ _ _ _ _ _ F1 (fun p hp => N1 p (.tail _ (.tail _ hp))) (by walk_at "mine tk") (by k_asm) (by k_asm)
end
end
/-! text Mi1 -/
section
theorem linesMi1x1 : True := by
  k_with_none
  k_with "mine enter" => ((refine' enter ?k2z351 ?k3z351 ?k4z351 ?k5z351 ?k6z351 ?k7z351 ?k8z351 ?k9z351 ?kBz351 ?_ ?c2z351 ?c3z351 ?c4z351 ?c5z351; (case k2z351 => k_asm); (case k3z351 => k_asm); (case k4z351 => k_asm); (case k5z351 => k_asm); (case k6z351 => k_is); (case k7z351 => k_is); (case k8z351 => ktr_room); (case k9z351 => exact BindsTo.of_eq rfl); (case c5z351 => decide); (case kBz351 => exact locs rfl); (case c2z351 => exact rfl); (case c3z351 => exact rfl); (case c4z351 => exact rfl); k_whole))
  k_with "mine keeps" => (((with_reducible rename Keeps _ _ _ => kK); (have F' := frAfter0 (by k_asm) kK); (have N' := newsAfter0 (by k_asm) kK); clear kK; (try k_sweep)))
  k_with "mine made" => (((with_reducible rename Keeps _ _ _ => kK); rename (Heap.get? _ _ = none) => kn; rename (Heap.get? _ _ = some _) => ks; (have l1 := allNe_of (by k_asm) kn); (have N' := newsIn (by k_asm) kn ks (newsAfter0 (by k_asm) kK)); (have F' := frAfter0 (by k_asm) kK); clear kK kn ks; (try k_sweep)))
  trivial
variable {pg : Program} {lz : List Str} {w : World} {mean : ExcName → Option Value} {mg mb : Str → Option Value}
   {dp un : Nat} {gd : Option (List Code)} {cn : Str} {cs : Scope} {a : Addr} {ccd : Value} {cl : List (Str × Addr)} {outer : List Env} {h₀ : Heap} {L : Addr} {m : Str → Option Value} {s : Shared} {Q E : Value → Shared → Prop}
theorem linesMi1x2 : True := by
  k_with "mine tk" => (((try dsimp only); first | with_reducible assumption | ((repeat (with_reducible refine Tk.add _ ?_)); with_reducible assumption) | exact Tk.succ | fail "mine: tk"))
  k_with "exec Assign" => (((fail_if_success (with_reducible show wpAny _ _ _ (UpQ _ _) _ _)); refine wpUp (by walk_at "mine tk") ?_))
  k_with "exec If" => (((fail_if_success (with_reducible show wpAny _ _ _ (UpQ _ _) _ _)); refine wpUp (by walk_at "mine tk") ?_))
  k_with "execs cons" => (((with_reducible show wpAny _ _ _ _ _ (Shared.mk _ _ _ (HAdd.hAdd _ _) _)); (refine genTk (by walk_at "mine tk") ?_); intro tk' hTk'; (try dsimp only)))
  k_with "UpQ" => ((refine UpQ.mk ?_; intro hTk'; (try dsimp only at hTk'); (try dsimp only)))
  k_with "loadName" => ((k_here; k_dflt (refine' ldnE ?k1z359 ?kLz359 ?k2z359 ?_; (case k1z359 => k_asm); (case kLz359 => exact rfl); (case k2z359 => first | exact rfl | assumption | fail "no"); k_whole)))
  k_with "eval Name" => ((k_here; k_dflt (refine' ldE ?k1z360 ?kLz360 ?k2z360 ?_; (case k1z360 => k_asm); (case kLz360 => exact rfl); (case k2z360 => first | exact rfl | assumption | fail "no"); k_whole)))
  k_with "mine eq1" => (first | exact eqI_at (by first | rfl | with_reducible assumption | omega) | exact eqF_at (by first | with_reducible assumption | exact Eq.symm (by with_reducible assumption)) (by walk_at "mine tk") (by walk_at "mine tk") (by exact noneBooked (by k_asm) (by k_asm) (by k_asm)) | exact eqS_at (by first | rfl | with_reducible assumption))
  k_with "mine eql" => (((try simp only [EqL, and_true]); (repeat' apply And.intro); all_goals walk_at "mine eq1"))
  k_with "compareOp Eq ref ref" => ((k_here; k_dflt (refine' eqT ?hlz363 ?hbz363 ?huz363 ?hez363 ?_; (case hlz363 => exact tupAt (by k_asm) (by k_mem)); (case hbz363 => exact tupAt (by k_asm) (by k_mem)); (case huz363 => ktr_units); (case hez363 => walk_at "mine eql"))))
  k_with "compareOp NotEq ref ref" => ((k_here; k_dflt (refine' neT ?hlz364 ?hbz364 ?huz364 ?hez364 ?_; (case hlz364 => exact tupAt (by k_asm) (by k_mem)); (case hbz364 => exact tupAt (by k_asm) (by k_mem)); (case huz364 => ktr_units); (case hez364 => walk_at "mine eql"))))
  k_with "subscriptTail Name Name ref int" => ((k_here; (with_reducible show wpAny _ _ (subscriptTail _ _ (Value.ref _) (Value.int _ _)) _ _ _); k_dflt (refine' itemAt ?Nz365 ?mz365 ?xz365 ?_ ?sz365; (case Nz365 => k_asm); (case mz365 => k_mem); (case xz365 => exact ⟨by omega, by omega, by with_reducible assumption⟩); (case sz365 => with_unfolding_all rfl))))
  k_with "subscriptTail Name BinOp ref int" => ((k_here; (with_reducible show wpAny _ _ (subscriptTail _ _ (Value.ref _) (Value.int _ _)) _ _ _); k_dflt (refine' itemAt ?Nz366 ?mz366 ?xz366 ?_ ?sz366; (case Nz366 => k_asm); (case mz366 => k_mem); (case xz366 => exact ⟨by omega, by omega, by with_reducible assumption⟩); (case sz366 => with_unfolding_all rfl))))
  k_with "exec Assign cons Dict" => (((fail_if_success (with_reducible show wpAny _ _ _ (UpQ _ _) _ _)); refine wpUp (by walk_at "mine tk") ?_))
  k_with "exec Assign cons ListComp" => (((fail_if_success (with_reducible show wpAny _ _ _ (UpQ _ _) _ _)); refine wpUp (by walk_at "mine tk") ?_))
  k_with "exec Assign cons Call" => (((fail_if_success (with_reducible show wpAny _ _ _ (UpQ _ _) _ _)); refine wpUp (by walk_at "mine tk") ?_))
  k_with "exec Assign cons" => (((fail_if_success (with_reducible show wpAny _ _ _ (UpQ _ _) _ _)); refine wpUp (by walk_at "mine tk") ?_))
  trivial
theorem tabDL {h : Heap} {k0 k1 p q : Int} {kvs : List (Int × Value)} {d : Addr} {o : Obj} (g : h.get? d = some o) (lo : (d == sysModules) = false) (ho : o.IsDictOf (PySem.intKind PG w) kvs) (hk : k0 ≠ k1) (e : DL k0 k1 p q kvs) :
    ∃ D, TabAt (PySem.intKind PG w) PyData.int h d D ∧ (PySem.Spec.lookup (.int k0) D).getD (.int 0) = .int p ∧ (PySem.Spec.lookup (.int k1) D).getD (.int 0) = .int q := by
  rcases e with ⟨rfl, t, rfl⟩ | ⟨_, t, u, rfl⟩
  · exact ⟨_, ⟨lo, _, Heap.dictOf_iff.mpr ⟨o, g, ho⟩, flat1 ..⟩, by simp [PySem.Spec.lookup, sameInt], by simp [PySem.Spec.lookup, sameInt, hk, Ne.symm hk]⟩
  · exact ⟨_, ⟨lo, _, Heap.dictOf_iff.mpr ⟨o, g, ho⟩, flat2 ..⟩, by rw [look0]; rfl, by rw [look1 hk]; rfl⟩
theorem tabDR {h : Heap} {k0 k1 p q : Int} {kvs : List (Int × Value)} {d : Addr} {o : Obj} (g : h.get? d = some o) (lo : (d == sysModules) = false) (ho : o.IsDictOf (PySem.intKind PG w) kvs) (hk : k0 ≠ k1) (e : DR k0 k1 p q kvs) :
    ∃ D, TabAt (PySem.intKind PG w) PyData.int h d D ∧ (PySem.Spec.lookup (.int k0) D).getD (.int 0) = .int p ∧ (PySem.Spec.lookup (.int k1) D).getD (.int 0) = .int q := by
  rcases e with ⟨rfl, u, rfl⟩ | ⟨_, t, u, rfl⟩
  · exact ⟨_, ⟨lo, _, Heap.dictOf_iff.mpr ⟨o, g, ho⟩, flat1 ..⟩, by simp [PySem.Spec.lookup, sameInt, hk, Ne.symm hk], by simp [PySem.Spec.lookup, sameInt]⟩
  · exact ⟨_, ⟨lo, _, Heap.dictOf_iff.mpr ⟨o, g, ho⟩, flat2 ..⟩, by rw [look0]; rfl, by rw [look1 hk]; rfl⟩
theorem atNow {h : Heap} {d d' : Addr} {o o' : Obj} {led : List (Addr × Obj)} (F : Fr h₀ L h m) (N : News h₀ L h led) (hm : (d', o') ∈ led) (c : h₀.get? d = some o ∨ (d = d' ∧ o = o')) : h.get? d = some o := by
  rcases c with c | ⟨rfl, rfl⟩
  · exact F.keep _ _ c
  · exact (N _ hm).1
theorem getM {d : Addr} {D : List (PyData × PyData)} {pl : Sem Bool} {prog : Program} {A : Around} {Q : Value × List Value → Shared → Prop} (Ta : TabAt (PySem.intKind prog w) PyData.int s.heap d D) (h : Q (.builtin "dict.get", [.ref d]) s) :
    wpAny (model prog w) A (getMethod (.ref d) (Str.ofString "get") pl) Q E s := by
  obtain ⟨lo, kvs, hD, hf⟩ := Ta
  exact getMethod_builtin hD.typeIs PySem.F.plainAttrs_dict PySem.F.slot_dict_get PySem.F.type_dict_get hD.mapOf.noDict h
section
theorem linesMi1x3 : True := by
  k_with "getMethod ref" => (refine ofMark ?_)
  k_with "call ref" => (refine ofMark ?_)
  k_with "compareOp NotEq ref ref" => (refine ofMark ?_)
  k_with "compareOp Eq ref ref" => (refine ofMark ?_)
  k_with "call builtin:dict.get" => (refine ofMark ?_)
  trivial
set_option maxHeartbeats 4000000 in
theorem segI {L₀ : Addr} {x y z : Int} {H S V : UInt64} {la lc lr lm tv : Addr} {t1 t2 t3 c1 c2 c3 c4 c5 c6 d1 d2 d3 d4 d5 d6 u1 u2 u3 : Tok} {m1 m2 m3 m4 m5 m6 : UInt64} {r1 r2 r3 r4 r5 r6 : Addr} {oM oU oLo oT oH oW oG : Obj} {oA : Obj} {cA : Addr} {ocA : Obj} {oB : Obj} {cB : Addr} {ocB : Obj}
   {params : Arguments} {body : List Stmt} {scope : Scope} {Qf : Flow → Shared → Prop} {Ef : Value → Shared → Prop} {lo hi : Int} {tlo thi : Tok} {k0 k1 lw up : Int} {n1 n2 tl tu : Tok} {na : Addr} {md lo' up' : Ent} {mv dm dl du dl' du' : Addr} {om ol ou ol' ou' : Obj} {kl ku : List (Int × Value)} {a1 a2 a3 a4 : Tok}
   (hI : oneDef = some (params, body, scope)) (F : Fr h₀ L s.heap m) (X : (Mine.hd.heap_1 w.params).In h₀) (T : Top pg lz mean mg mb h₀)
   (C1 : CodeHd h₀ 55 51) (C2 : CodeHd h₀ 62 58) (hd : dp + 30 < recursionLimit) (hun : un + 1000 < cLine) (hTk : Tk True s.toks)
   (l' : @LT.lt Nat _ la L ∧ @LT.lt Nat _ lc L ∧ @LT.lt Nat _ lr L ∧ @LT.lt Nat _ lm L ∧ @LT.lt Nat _ 51 L ∧ @LT.lt Nat _ 58 L) (ltv : @LT.lt Nat _ (L + 1 + 1 + 1 + 1 + 1 + 1 + 1) tv)
   (h58 : Off2 la ∧ Off2 lc ∧ Off2 lr ∧ Off2 lm) (hA : TabS 51 55 4 qA oA cA ocA) (hB : TabS 58 70 4 qB oB cB ocB) (nAB : Shut (cA ≠ 58 ∧ cB ≠ 51))
   (N : News h₀ L s.heap [(mv, md.tup dm a1 a2 a3 a4), (dm, om), (dl', ol'), (du', ou'), (na, PySem.W.listOf #[.int k0 n1, .int k1 n2] 0), (L + 1 + 1 + 1 + 1 + 1 + 1 + 1, oM), (L + 1 + 1 + 1 + 1 + 1 + 1, oU), (L + 1 + 1 + 1 + 1 + 1, oLo), (L + 1 + 1 + 1 + 1, oT), (L + 1 + 1 + 1, oH), (L + 1 + 1, oW), (L + 1, oG), (tv, tupO [.float H u1, .float S u2, .float V u3]), (la, lstO [.int x t1, .int y t2, .int z t3]), (lc, lstO [.int 4 c1, .int 6 c2, .int 2 c3, .int 3 c4, .int 1 c5, .int 5 c6]), (lr, LCg.lst [.ref r1, .ref r2, .ref r3, .ref r4, .ref r5, .ref r6]), (lm, LCg.lst [.float m1 d1, .float m2 d2, .float m3 d3, .float m4 d4, .float m5 d5, .float m6 d6]), (51, oA), (cA, ocA), (58, oB), (cB, ocB)]) (O1 : Off L mv) (O2 : Off L dm) (O3 : Off L dl') (O4 : Off L du')
   (dU : oU.data = .cell (some (.int up tu))) (dLo : oLo.data = .cell (some (.int lw tl)))
   (hm7 : m "names" = some (.ref na)) (hm8 : m "under" = some (.ref dl)) (hm9 : m "over" = some (.ref du))
   (hlw : 1 ≤ lw ∧ lw ≤ 12) (hup : 1 ≤ up ∧ up ≤ 12) (lna : @LT.lt Nat _ (L + 1 + 1 + 1 + 1 + 1 + 1 + 1) na)
   (Cdl : h₀.get? dl = some ol ∨ (dl = dl' ∧ ol = ol')) (Cdu : h₀.get? du = some ou ∨ (du = du' ∧ ou = ou')) (hk : Shut (k0 ≠ k1))
   (lo4 : (dl == sysModules) = false) (lo5 : (du == sysModules) = false) (q2 : ol.IsDictOf (PySem.intKind PG w) kl) (q3 : DL k0 k1 lo'.p lo'.q kl) (q4 : ou.IsDictOf (PySem.intKind PG w) ku) (q5 : DR k0 k1 up'.p up'.q ku)
   (p1 : 0 ≤ lo'.p * up - 1 ∧ lo'.p * up - 1 ≤ 144) (p2 : (lo'.p * up - 1).fdiv lw = lo'.q) (p3 : (lo'.p * up - 1).fmod lw = 0)
   (p4 : 0 ≤ up'.q * lw - 1 ∧ up'.q * lw - 1 ≤ 144) (p5 : (up'.q * lw - 1).fdiv up = up'.p) (p6 : (up'.q * lw - 1).fmod up = 0)
   (hF : ∀ (h' : Heap) (tk' : Nat) (m' : Str → Option Value) (oA' : Obj) (cA' : Addr) (ocA' : Obj) (oB' : Obj) (cB' : Addr) (ocB' : Obj), Fr h₀ L h' m' → News h₀ L h' [(la, lstO [.int x t1, .int y t2, .int z t3]), (lc, lstO [.int 4 c1, .int 6 c2, .int 2 c3, .int 3 c4, .int 1 c5, .int 5 c6]), (lr, LCg.lst [.ref r1, .ref r2, .ref r3, .ref r4, .ref r5, .ref r6]), (lm, LCg.lst [.float m1 d1, .float m2 d2, .float m3 d3, .float m4 d4, .float m5 d5, .float m6 d6]), (51, oA'), (cA', ocA'), (58, oB'), (cB', ocB')] →
      TabS 51 55 4 qA oA' cA' ocA' → TabS 58 70 4 qB oB' cB' ocB' → Shut (cA' ≠ 58 ∧ cB' ≠ 51) → (cA ≠ 51 → cA' = cA ∧ ocA' = ocA) → (cB ≠ 58 → cB' = cB ∧ ocB' = ocB) → Qf (.ret (.bool true)) { s with heap := h', toks := tk' })
   : wpAny (model PySem.Challenge.rw_ph0126_01.row.prog w) ((ktrTop dp un gd cn cs L₀ a ccd cl outer).deeper (oneEnv scope L)) (execs (body.drop 22) (oneEnv scope L)) Qf Ef s := by
  revert X; k_fill; intro X
  conv at hI => lhs; whnf
  injection hI with hI
  injection hI with e1 e2
  injection e2 with e2 e3
  subst e1 e2 e3
  dsimp only [List.drop]
  (try k_fold)
  k_steps
  refine mark ?_
  rename News _ _ _ _ => N1; rename Fr _ _ _ _ => F1
  obtain ⟨Da, hTa, hD0, hD1⟩ := tabDL (w := w) (atNow F1 N1 ((.tail _ (.tail _ (.head _)))) Cdl) lo4 q2 hk.out q3
  refine getM hTa ?_
  clear hTa hD0 hD1
  k_steps
  refine mark ?_
  rename News _ _ _ _ => N1; rename Fr _ _ _ _ => F1
  obtain ⟨Da, hTa, hD0, hD1⟩ := tabDL (w := w) (atNow F1 N1 ((.tail _ (.tail _ (.head _)))) Cdl) lo4 q2 hk.out q3
  refine getD (v := lo'.p) hTa hD0 ?_
  intro uga
  clear hTa hD0 hD1
  dsimp only
  k_steps
  refine mark ?_
  rename News _ _ _ _ => N1; rename Fr _ _ _ _ => F1
  refine idm_ok F1 X T (fun p hp => N1 p (List.mem_append_right ([_, _, _, _, _, _, _, _, _, _, _, _, _, _, _, _, _] : List (Addr × Obj)) hp)) hA hB C1 C2 (by ktr_room) p1 (by omega) nAB ?_
  intro v2' h3 tk3 b1 b2 oA' cA' ocA' oB' cB' ocB' K3 n3 g3 NT hA' hB' fA fB nAB' gA' gB'
  have NR : News h₀ L _ [(mv, md.tup dm a1 a2 a3 a4), (dm, om), (dl', ol'), (du', ou'), (na, PySem.W.listOf #[.int k0 n1, .int k1 n2] 0), (L + 1 + 1 + 1 + 1 + 1 + 1 + 1, oM), (L + 1 + 1 + 1 + 1 + 1 + 1, oU), (L + 1 + 1 + 1 + 1 + 1, oLo), (L + 1 + 1 + 1 + 1, oT), (L + 1 + 1 + 1, oH), (L + 1 + 1, oW), (L + 1, oG), (tv, tupO [.float H u1, .float S u2, .float V u3]), (la, lstO [.int x t1, .int y t2, .int z t3]), (lc, lstO [.int 4 c1, .int 6 c2, .int 2 c3, .int 3 c4, .int 1 c5, .int 5 c6]), (lr, LCg.lst [.ref r1, .ref r2, .ref r3, .ref r4, .ref r5, .ref r6]), (lm, LCg.lst [.float m1 d1, .float m2 d2, .float m3 d3, .float m4 d4, .float m5 d5, .float m6 d6])] := fun p hp => N1 p (List.mem_append_left [_, _, _, _] hp)
  have NT0 : NoTab [(mv, md.tup dm a1 a2 a3 a4), (dm, om), (dl', ol'), (du', ou'), (na, PySem.W.listOf #[.int k0 n1, .int k1 n2] 0), (L + 1 + 1 + 1 + 1 + 1 + 1 + 1, oM), (L + 1 + 1 + 1 + 1 + 1 + 1, oU), (L + 1 + 1 + 1 + 1 + 1, oLo), (L + 1 + 1 + 1 + 1, oT), (L + 1 + 1 + 1, oH), (L + 1 + 1, oW), (L + 1, oG), (tv, tupO [.float H u1, .float S u2, .float V u3]), (la, lstO [.int x t1, .int y t2, .int z t3]), (lc, lstO [.int 4 c1, .int 6 c2, .int 2 c3, .int 3 c4, .int 1 c5, .int 5 c6]), (lr, LCg.lst [.ref r1, .ref r2, .ref r3, .ref r4, .ref r5, .ref r6]), (lm, LCg.lst [.float m1 d1, .float m2 d2, .float m3 d3, .float m4 d4, .float m5 d5, .float m6 d6])] := by
    refine ⟨⟨O1.o51, O1.o58⟩, ⟨O2.o51, O2.o58⟩, ⟨O3.o51, O3.o58⟩, ⟨O4.o51, O4.o58⟩, ?_⟩
    repeat' apply And.intro
    all_goals first | trivial | exact h58.1.o51 | exact h58.1.o58 | exact h58.2.1.o51 | exact h58.2.1.o58 | exact h58.2.2.1.o51 | exact h58.2.2.1.o58 | exact h58.2.2.2.o51 | exact h58.2.2.2.o58 | (show @Ne Nat _ _; dsimp only; omega)
  have F3 := frAfter F1 N1 (ms := [51, 58]) (by
    intro b hb
    simp only [List.mem_cons, List.not_mem_nil, or_false] at hb
    rcases hb with rfl | rfl
    · exact ⟨_, by k_mem⟩
    · exact ⟨_, by k_mem⟩) K3
  have N3 := newsIn F1 n3 g3 (newsApp (newsAfter NR NT0.out K3) NT)
  simp only [List.cons_append, List.nil_append] at N3
  clear NR NT0 NT n3 g3 K3 fA fB F1 N1
  dsimp only
  k_steps
  refine mark ?_
  rename News _ _ _ _ => N1; rename Fr _ _ _ _ => F1
  obtain ⟨Db, hTb, hD0, hD1⟩ := tabDL (w := w) (atNow F1 N1 ((.tail _ (.tail _ (.tail _ (.head _))))) Cdl) lo4 q2 hk.out q3
  refine getM hTb ?_
  clear hTb hD0 hD1
  k_steps
  refine mark ?_
  rename News _ _ _ _ => N1; rename Fr _ _ _ _ => F1
  obtain ⟨Db, hTb, hD0, hD1⟩ := tabDL (w := w) (atNow F1 N1 ((.tail _ (.tail _ (.tail _ (.head _))))) Cdl) lo4 q2 hk.out q3
  refine getD (v := lo'.q) hTb hD1 ?_
  intro ugb
  clear hTb hD0 hD1
  dsimp only
  k_steps
  refine mark ?_
  rename News _ _ _ _ => N1; rename Fr _ _ _ _ => F1
  refine neT (tupAt N1 (by k_mem)) (tupAt N1 (by k_mem)) (by ktr_units) ?he1 ?_
  case he1 => exact ⟨eqI_at p2, eqI_at p3, trivial⟩
  k_steps
  replace N1 : News h₀ L _ [(mv, md.tup dm a1 a2 a3 a4), (dm, om), (dl', ol'), (du', ou'), (na, PySem.W.listOf #[.int k0 n1, .int k1 n2] 0), (L + 1 + 1 + 1 + 1 + 1 + 1 + 1, oM), (L + 1 + 1 + 1 + 1 + 1 + 1, oU), (L + 1 + 1 + 1 + 1 + 1, oLo), (L + 1 + 1 + 1 + 1, oT), (L + 1 + 1 + 1, oH), (L + 1 + 1, oW), (L + 1, oG), (tv, tupO [.float H u1, .float S u2, .float V u3]), (la, lstO [.int x t1, .int y t2, .int z t3]), (lc, lstO [.int 4 c1, .int 6 c2, .int 2 c3, .int 3 c4, .int 1 c5, .int 5 c6]), (lr, LCg.lst [.ref r1, .ref r2, .ref r3, .ref r4, .ref r5, .ref r6]), (lm, LCg.lst [.float m1 d1, .float m2 d2, .float m3 d3, .float m4 d4, .float m5 d5, .float m6 d6]), (51, oA'), (cA', ocA'), (58, oB'), (cB', ocB')] := fun p hp => N1 p (.tail _ (.tail _ hp))
  refine mark ?_
  rename News _ _ _ _ => N1; rename Fr _ _ _ _ => F1
  obtain ⟨Dc, hTc, hD0, hD1⟩ := tabDR (w := w) (atNow F1 N1 ((.tail _ (.tail _ (.tail _ (.head _))))) Cdu) lo5 q4 hk.out q5
  refine getM hTc ?_
  clear hTc hD0 hD1
  k_steps
  refine mark ?_
  rename News _ _ _ _ => N1; rename Fr _ _ _ _ => F1
  obtain ⟨Dc, hTc, hD0, hD1⟩ := tabDR (w := w) (atNow F1 N1 ((.tail _ (.tail _ (.tail _ (.head _))))) Cdu) lo5 q4 hk.out q5
  refine getD (v := up'.q) hTc hD1 ?_
  intro ugc
  clear hTc hD0 hD1
  dsimp only
  k_steps
  refine mark ?_
  rename News _ _ _ _ => N1; rename Fr _ _ _ _ => F1
  refine idm_ok F1 X T (fun p hp => N1 p (List.mem_append_right ([_, _, _, _, _, _, _, _, _, _, _, _, _, _, _, _, _] : List (Addr × Obj)) hp)) hA' hB' C1 C2 (by ktr_room) p4 (by omega) nAB' ?_
  intro v2'' h3 tk3 b1 b2 oA'' cA'' ocA'' oB'' cB'' ocB'' K3 n3 g3 NT hA'' hB'' fA fB nAB'' gA'' gB''
  have NR : News h₀ L _ [(mv, md.tup dm a1 a2 a3 a4), (dm, om), (dl', ol'), (du', ou'), (na, PySem.W.listOf #[.int k0 n1, .int k1 n2] 0), (L + 1 + 1 + 1 + 1 + 1 + 1 + 1, oM), (L + 1 + 1 + 1 + 1 + 1 + 1, oU), (L + 1 + 1 + 1 + 1 + 1, oLo), (L + 1 + 1 + 1 + 1, oT), (L + 1 + 1 + 1, oH), (L + 1 + 1, oW), (L + 1, oG), (tv, tupO [.float H u1, .float S u2, .float V u3]), (la, lstO [.int x t1, .int y t2, .int z t3]), (lc, lstO [.int 4 c1, .int 6 c2, .int 2 c3, .int 3 c4, .int 1 c5, .int 5 c6]), (lr, LCg.lst [.ref r1, .ref r2, .ref r3, .ref r4, .ref r5, .ref r6]), (lm, LCg.lst [.float m1 d1, .float m2 d2, .float m3 d3, .float m4 d4, .float m5 d5, .float m6 d6])] := fun p hp => N1 p (List.mem_append_left [_, _, _, _] hp)
  have NT0 : NoTab [(mv, md.tup dm a1 a2 a3 a4), (dm, om), (dl', ol'), (du', ou'), (na, PySem.W.listOf #[.int k0 n1, .int k1 n2] 0), (L + 1 + 1 + 1 + 1 + 1 + 1 + 1, oM), (L + 1 + 1 + 1 + 1 + 1 + 1, oU), (L + 1 + 1 + 1 + 1 + 1, oLo), (L + 1 + 1 + 1 + 1, oT), (L + 1 + 1 + 1, oH), (L + 1 + 1, oW), (L + 1, oG), (tv, tupO [.float H u1, .float S u2, .float V u3]), (la, lstO [.int x t1, .int y t2, .int z t3]), (lc, lstO [.int 4 c1, .int 6 c2, .int 2 c3, .int 3 c4, .int 1 c5, .int 5 c6]), (lr, LCg.lst [.ref r1, .ref r2, .ref r3, .ref r4, .ref r5, .ref r6]), (lm, LCg.lst [.float m1 d1, .float m2 d2, .float m3 d3, .float m4 d4, .float m5 d5, .float m6 d6])] := by
    refine ⟨⟨O1.o51, O1.o58⟩, ⟨O2.o51, O2.o58⟩, ⟨O3.o51, O3.o58⟩, ⟨O4.o51, O4.o58⟩, ?_⟩
    repeat' apply And.intro
    all_goals first | trivial | exact h58.1.o51 | exact h58.1.o58 | exact h58.2.1.o51 | exact h58.2.1.o58 | exact h58.2.2.1.o51 | exact h58.2.2.1.o58 | exact h58.2.2.2.o51 | exact h58.2.2.2.o58 | (show @Ne Nat _ _; dsimp only; omega)
  have F3 := frAfter F1 N1 (ms := [51, 58]) (by
    intro b hb
    simp only [List.mem_cons, List.not_mem_nil, or_false] at hb
    rcases hb with rfl | rfl
    · exact ⟨_, by k_mem⟩
    · exact ⟨_, by k_mem⟩) K3
  have N3 := newsIn F1 n3 g3 (newsApp (newsAfter NR NT0.out K3) NT)
  simp only [List.cons_append, List.nil_append] at N3
  clear NR NT0 NT n3 g3 K3 fA fB F1 N1
  dsimp only
  k_steps
  refine mark ?_
  rename News _ _ _ _ => N1; rename Fr _ _ _ _ => F1
  obtain ⟨Dd, hTd, hD0, hD1⟩ := tabDR (w := w) (atNow F1 N1 ((.tail _ (.tail _ (.tail _ (.tail _ (.head _)))))) Cdu) lo5 q4 hk.out q5
  refine getM hTd ?_
  clear hTd hD0 hD1
  k_steps
  refine mark ?_
  rename News _ _ _ _ => N1; rename Fr _ _ _ _ => F1
  obtain ⟨Dd, hTd, hD0, hD1⟩ := tabDR (w := w) (atNow F1 N1 ((.tail _ (.tail _ (.tail _ (.tail _ (.head _)))))) Cdu) lo5 q4 hk.out q5
  refine getD (v := up'.p) hTd hD0 ?_
  intro ugd
  clear hTd hD0 hD1
  dsimp only
  k_steps
  refine mark ?_
  rename News _ _ _ _ => N1; rename Fr _ _ _ _ => F1
  refine eqT (tupAt N1 (by k_mem)) (tupAt N1 (by k_mem)) (by ktr_units) ?he2 ?_
  case he2 => exact ⟨eqI_at p5, eqI_at p6, trivial⟩
  k_steps
  refine hF _ _ _ oA'' cA'' ocA'' oB'' cB'' ocB'' F1 (fun p hp => N1 p (.tail _ (.tail _ (List.mem_append_right ([_, _, _, _, _, _, _, _, _, _, _, _, _] : List (Addr × Obj)) hp)))) hA'' hB'' nAB'' (fun z => ?_) (fun z => ?_)
  · obtain ⟨e1, e2⟩ := gA' z
    obtain ⟨e3, e4⟩ := gA'' (by rw [e1]; exact z)
    exact ⟨e3.trans e1, e4.trans e2⟩
  · obtain ⟨e1, e2⟩ := gB' z
    obtain ⟨e3, e4⟩ := gB'' (by rw [e1]; exact z)
    exact ⟨e3.trans e1, e4.trans e2⟩
end
end
/-! text Pl1 -/
section
theorem linesPl1x1 : True := by
  k_with_none
  k_with "mine enter" => ((refine' enter ?k2z376 ?k3z376 ?k4z376 ?k5z376 ?k6z376 ?k7z376 ?k8z376 ?k9z376 ?kBz376 ?_ ?c2z376 ?c3z376 ?c4z376 ?c5z376; (case k2z376 => k_asm); (case k3z376 => k_asm); (case k4z376 => k_asm); (case k5z376 => k_asm); (case k6z376 => k_is); (case k7z376 => k_is); (case k8z376 => ktr_room); (case k9z376 => exact BindsTo.of_eq rfl); (case c5z376 => decide); (case kBz376 => exact locs rfl); (case c2z376 => exact rfl); (case c3z376 => exact rfl); (case c4z376 => exact rfl); k_whole))
  k_with "mine keeps" => (((with_reducible rename Keeps _ _ _ => kK); (have F' := frAfter0 (by k_asm) kK); (have N' := newsAfter0 (by k_asm) kK); clear kK; (try k_sweep)))
  k_with "mine made" => (((with_reducible rename Keeps _ _ _ => kK); rename (Heap.get? _ _ = none) => kn; rename (Heap.get? _ _ = some _) => ks; (have l1 := allNe_of (by k_asm) kn); (have N' := newsIn (by k_asm) kn ks (newsAfter0 (by k_asm) kK)); (have F' := frAfter0 (by k_asm) kK); clear kK kn ks; (try k_sweep)))
  trivial
variable {pg : Program} {lz : List Str} {w : World} {mean : ExcName → Option Value} {mg mb : Str → Option Value}
   {dp un : Nat} {gd : Option (List Code)} {cn : Str} {cs : Scope} {a : Addr} {ccd : Value} {cl : List (Str × Addr)} {outer : List Env} {h₀ : Heap} {L : Addr} {m : Str → Option Value} {s : Shared} {Q E : Value → Shared → Prop}
noncomputable def qF (k d : Nat) : UInt64 := Float64.ofFrac false k d
theorem subT : ∀ a : Nat, a < 13 → ∀ b : Nat, b < 13 → b ≤ a → Float64.sub (dF (a : Int)) (dF (b : Int)) = dF ((a - b : Nat) : Int) := by decide +kernel
theorem ltT : ∀ a : Nat, a < 13 → ∀ b : Nat, b < 13 → ltF (dF (a : Int)) (dF (b : Int)) = decide (a < b) := by decide +kernel
theorem eqT' : ∀ a : Nat, a < 13 → ∀ b : Nat, b < 13 → eqF (dF (a : Int)) (dF (b : Int)) = decide (a = b) := by decide +kernel
theorem divT : ∀ a : Nat, a < 13 → ∀ b : Nat, b < 13 → a ≤ b → b ≠ 0 → Float64.div (dF (a : Int)) (dF (b : Int)) = qF a b ∧ eqF (qF a b) (qF a b) = true := by decide +kernel
theorem zeroT : ∀ a : Nat, a < 13 → Float64.isZero (dF (a : Int)) = decide (a = 0) := by decide +kernel
theorem oneT : ∀ a : Nat, a < 13 → a ≠ 0 → eqF (qF a a) 4607182418800017408 = true := by decide +kernel
/-- the hue by differences: which part is the greatest, the greatest less each part, the greatest less the least -/
noncomputable def hC (c : Nat) (a b e d : Nat) : UInt64 :=
  (Float64.divmod (Float64.div
    (if c = 0 then Float64.sub (qF e d) (qF b d)
      else if c = 1 then Float64.sub (Float64.add 4611686018427387904 (qF a d)) (qF e d)
      else Float64.sub (Float64.add 4616189618054758400 (qF b d)) (qF a d)) 4618441417868443648) 4607182418800017408).2
noncomputable def hI (x y z : Nat) : UInt64 :=
  if max x (max y z) = min x (min y z) then 0 else
  hC (if x = max x (max y z) then 0 else if y = max x (max y z) then 1 else 2) (max x (max y z) - x) (max x (max y z) - y) (max x (max y z) - z) (max x (max y z) - min x (min y z))
theorem max3_eq {x y z : Nat} (hx : x < 13) (hy : y < 13) (hz : z < 13) : max3F (dF x) (dF y) (dF z) = dF ((max x (max y z) : Nat) : Int) := by
  unfold max3F
  rw [ltT x hx y hy]
  by_cases h1 : x < y
  · simp only [h1, decide_true, if_true]
    rw [ltT y hy z hz]
    by_cases h2 : y < z
    · simp only [h2, decide_true, if_true]; rw [Nat.max_eq_right (Nat.le_of_lt h2), Nat.max_eq_right (Nat.le_of_lt (Nat.lt_trans h1 h2))]
    · simp only [h2, decide_false, Bool.false_eq_true, if_false]; rw [Nat.max_eq_left (Nat.le_of_not_lt h2), Nat.max_eq_right (Nat.le_of_lt h1)]
  · simp only [h1, decide_false, Bool.false_eq_true, if_false]
    rw [ltT x hx z hz]
    by_cases h2 : x < z
    · simp only [h2, decide_true, if_true]; rw [Nat.max_eq_right (Nat.le_of_lt (Nat.lt_of_le_of_lt (Nat.le_of_not_lt h1) h2)), Nat.max_eq_right (Nat.le_of_lt h2)]
    · simp only [h2, decide_false, Bool.false_eq_true, if_false]; rw [Nat.max_eq_left (Nat.max_le.mpr ⟨Nat.le_of_not_lt h1, Nat.le_of_not_lt h2⟩)]
theorem min3_eq {x y z : Nat} (hx : x < 13) (hy : y < 13) (hz : z < 13) : min3F (dF x) (dF y) (dF z) = dF ((min x (min y z) : Nat) : Int) := by
  unfold min3F
  rw [ltT y hy x hx]
  by_cases h1 : y < x
  · simp only [h1, decide_true, if_true]
    rw [ltT z hz y hy]
    by_cases h2 : z < y
    · simp only [h2, decide_true, if_true]; rw [Nat.min_eq_right (Nat.le_of_lt h2), Nat.min_eq_right (Nat.le_of_lt (Nat.lt_trans h2 h1))]
    · simp only [h2, decide_false, Bool.false_eq_true, if_false]; rw [Nat.min_eq_left (Nat.le_of_not_lt h2), Nat.min_eq_right (Nat.le_of_lt h1)]
  · simp only [h1, decide_false, Bool.false_eq_true, if_false]
    rw [ltT z hz x hx]
    by_cases h2 : z < x
    · simp only [h2, decide_true, if_true]; rw [Nat.min_eq_right (Nat.le_of_lt (Nat.lt_of_lt_of_le h2 (Nat.le_of_not_lt h1))), Nat.min_eq_right (Nat.le_of_lt h2)]
    · simp only [h2, decide_false, Bool.false_eq_true, if_false]; rw [Nat.min_eq_left (Nat.le_min.mpr ⟨Nat.le_of_not_lt h1, Nat.le_of_not_lt h2⟩)]
/-- the greatest and the least by what holds of them -/
theorem mm3 {x y z : Nat} (hx : x < 13) (hy : y < 13) (hz : z < 13) : max x (max y z) < 13 ∧ min x (min y z) ≤ max x (max y z) ∧ x ≤ max x (max y z) ∧ y ≤ max x (max y z) ∧ z ≤ max x (max y z) ∧ min x (min y z) ≤ x ∧ min x (min y z) ≤ y ∧ min x (min y z) ≤ z :=
  ⟨Nat.max_lt.mpr ⟨hx, Nat.max_lt.mpr ⟨hy, hz⟩⟩, Nat.le_trans (Nat.min_le_left _ _) (Nat.le_max_left _ _), Nat.le_max_left _ _, Nat.le_trans (Nat.le_max_left _ _) (Nat.le_max_right _ _), Nat.le_trans (Nat.le_max_right _ _) (Nat.le_max_right _ _),
   Nat.min_le_left _ _, Nat.le_trans (Nat.min_le_right _ _) (Nat.min_le_left _ _), Nat.le_trans (Nat.min_le_right _ _) (Nat.min_le_right _ _)⟩
theorem difs {x M m : Nat} (hM : M < 13) (h1 : m ≤ x) (h2 : x ≤ M) (h : ¬ M = m) : M - x < 13 ∧ M - m < 13 ∧ M - x ≤ M - m ∧ M - m ≠ 0 := by omega
theorem hue_eq {x y z : Nat} (hx : x < 13) (hy : y < 13) (hz : z < 13) : hueF (dF x) (dF y) (dF z) = hI x y z := by
  unfold hueF hI hC
  rw [max3_eq hx hy hz, min3_eq hx hy hz]
  obtain ⟨hM, hmM, g1, g2, g3, l1, l2, l3⟩ := mm3 hx hy hz
  generalize max x (max y z) = M at *
  generalize min x (min y z) = m at *
  have hm : m < 13 := Nat.lt_of_le_of_lt hmM hM
  rw [eqT' _ hm _ hM, eqT' _ hx _ hM, eqT' _ hy _ hM, subT _ hM _ hx g1, subT _ hM _ hy g2, subT _ hM _ hz g3, subT _ hM _ hm hmM]
  by_cases h : M = m
  · simp only [h, decide_true, if_true]
  · have h' : ¬ m = M := fun e => h e.symm
    simp only [h, h', decide_false, Bool.false_eq_true, if_false, decide_eq_true_eq]
    have d1 := difs hM l1 g1 h
    have d2 := difs hM l2 g2 h
    have d3 := difs hM l3 g3 h
    rw [(divT (M - x) d1.1 (M - m) d1.2.1 d1.2.2.1 d1.2.2.2).1, (divT (M - y) d2.1 (M - m) d2.2.1 d2.2.2.1 d2.2.2.2).1, (divT (M - z) d3.1 (M - m) d3.2.1 d3.2.2.1 d3.2.2.2).1]
    by_cases h1 : x = M
    · simp only [h1.symm ▸ (rfl : x = x), if_pos h1, if_true]
    · by_cases h2 : y = M
      · simp only [if_neg h1, if_pos h2]; rfl
      · simp only [if_neg h1, if_neg h2]; rfl
theorem sat_eq {x y z : Nat} (hx : x < 13) (hy : y < 13) (hz : z < 13) : satF (dF x) (dF y) (dF z) = if max x (max y z) = min x (min y z) then 0 else qF (max x (max y z) - min x (min y z)) (max x (max y z)) := by
  unfold satF
  rw [max3_eq hx hy hz, min3_eq hx hy hz]
  obtain ⟨hM, hmM, g1, g2, g3, l1, l2, l3⟩ := mm3 hx hy hz
  generalize max x (max y z) = M at *
  generalize min x (min y z) = m at *
  clear g1 g2 g3 l1 l2 l3 hx hy hz
  have hm : m < 13 := Nat.lt_of_le_of_lt hmM hM
  rw [eqT' _ hm _ hM, subT _ hM _ hm hmM]
  by_cases h : M = m
  · simp only [h, decide_true, if_true]
  · have h' : ¬ m = M := fun e => h e.symm
    simp only [h, h', decide_false, Bool.false_eq_true, if_false]
    exact (divT _ (by omega) _ hM (by omega) (by omega)).1
theorem hsv_all {x y z : Nat} (hx : x < 13) (hy : y < 13) (hz : z < 13) : hsvOk (dF x) (dF y) (dF z) = true := by
  unfold hsvOk
  rw [max3_eq hx hy hz, min3_eq hx hy hz]
  obtain ⟨hM, hmM, g1, g2, g3, l1, l2, l3⟩ := mm3 hx hy hz
  generalize max x (max y z) = M at *
  generalize min x (min y z) = m at *
  clear g1 g2 g3 l1 l2 l3 hx hy hz
  have hm : m < 13 := Nat.lt_of_le_of_lt hmM hM
  rw [eqT' _ hm _ hM, subT _ hM _ hm hmM, zeroT _ hM, zeroT _ (by omega)]
  by_cases h : m = M
  · simp [h]
  · have h1 : ¬ M = 0 := by omega
    have h2 : ¬ M - m = 0 := by omega
    simp only [h, h1, h2, decide_false, Bool.not_false, Bool.and_self, Bool.or_true]
theorem hI_low {x y z l : Nat} (h : l ≤ x ∧ l ≤ y ∧ l ≤ z) : hI x y z = hI (x - l) (y - l) (z - l) := by
  obtain ⟨a, rfl⟩ := Nat.exists_eq_add_of_le h.1
  obtain ⟨b, rfl⟩ := Nat.exists_eq_add_of_le h.2.1
  obtain ⟨c, rfl⟩ := Nat.exists_eq_add_of_le h.2.2
  unfold hI
  simp only [Nat.add_sub_cancel_left, Nat.add_max_add_left, Nat.add_min_add_left, Nat.add_left_cancel_iff, Nat.add_sub_add_left]
end
/-! text Pl2 -/
section
theorem linesPl2x1 : True := by
  k_with_none
  k_with "mine enter" => ((refine' enter ?k2z379 ?k3z379 ?k4z379 ?k5z379 ?k6z379 ?k7z379 ?k8z379 ?k9z379 ?kBz379 ?_ ?c2z379 ?c3z379 ?c4z379 ?c5z379; (case k2z379 => k_asm); (case k3z379 => k_asm); (case k4z379 => k_asm); (case k5z379 => k_asm); (case k6z379 => k_is); (case k7z379 => k_is); (case k8z379 => ktr_room); (case k9z379 => exact BindsTo.of_eq rfl); (case c5z379 => decide); (case kBz379 => exact locs rfl); (case c2z379 => exact rfl); (case c3z379 => exact rfl); (case c4z379 => exact rfl); k_whole))
  k_with "mine keeps" => (((with_reducible rename Keeps _ _ _ => kK); (have F' := frAfter0 (by k_asm) kK); (have N' := newsAfter0 (by k_asm) kK); clear kK; (try k_sweep)))
  k_with "mine made" => (((with_reducible rename Keeps _ _ _ => kK); rename (Heap.get? _ _ = none) => kn; rename (Heap.get? _ _ = some _) => ks; (have l1 := allNe_of (by k_asm) kn); (have N' := newsIn (by k_asm) kn ks (newsAfter0 (by k_asm) kK)); (have F' := frAfter0 (by k_asm) kK); clear kK kn ks; (try k_sweep)))
  trivial
variable {pg : Program} {lz : List Str} {w : World} {mean : ExcName → Option Value} {mg mb : Str → Option Value}
   {dp un : Nat} {gd : Option (List Code)} {cn : Str} {cs : Scope} {a : Addr} {ccd : Value} {cl : List (Str × Addr)} {outer : List Env} {h₀ : Heap} {L : Addr} {m : Str → Option Value} {s : Shared} {Q E : Value → Shared → Prop}
noncomputable def cR (p : Nat) : Nat := [1, 1, 0, 0, 0, 1].getD p 0
noncomputable def cG (p : Nat) : Nat := [0, 1, 1, 1, 0, 0].getD p 0
noncomputable def cB (p : Nat) : Nat := [0, 0, 0, 1, 1, 1].getD p 0
noncomputable def codeN (p : Nat) : Int := [4, 6, 2, 3, 1, 5].getD p 0
noncomputable def nx (p : Nat) : Nat := (p + 1) % 6
noncomputable def entL (p : Nat) : Ent := ⟨cR p, cG p, cB p, 1, 1, 0⟩
noncomputable def entU (p : Nat) : Ent := ⟨cR p, cG p, cB p, 1, 0, 1⟩
noncomputable def mkI (p : Nat) : UInt64 := hI (cR p) (cG p) (cB p)
noncomputable def Ent.okI (x : Ent) : Bool := decide (0 ≤ x.r ∧ x.r ≤ 12 ∧ 0 ≤ x.g ∧ x.g ≤ 12 ∧ 0 ≤ x.b ∧ x.b ≤ 12 ∧ 0 ≤ x.p ∧ x.p ≤ 12 ∧ 0 ≤ x.q ∧ x.q ≤ 12 ∧ x.p ≠ 0 ∧ x.q ≠ 0)
/-- the search upon a table of hues: `T a b` is the hue of the entry that the lower corner calls `a` times and the upper one `b` times -/
noncomputable def srchI (T : Int → Int → UInt64) (H : UInt64) : Nat → Ent → Ent → Str → Option (Ent × Ent × Ent × Str)
  | 0, _, _, _ => none
  | k + 1, l, u, wd =>
    if (l.add u).okI then
      match Float64.cmp (T (l.add u).p (l.add u).q) H with
      | some .eq => some (l.add u, l, u, wd)
      | some .lt => srchI T H k (l.add u) u (wd ++ "r")
      | _ => srchI T H k l (l.add u) (wd ++ "l")
    else none
noncomputable def hS (p : Nat) (P Q : Nat) : UInt64 := hI (P * cR p + Q * cR (nx p)) (P * cG p + Q * cG (nx p)) (P * cB p + Q * cB (nx p))
/-- the hues, written out (by a program) -/
noncomputable def hueTab : List (List (List Nat)) := [[[0, 0, 0, 0, 0, 0, 0, 0, 0, 0, 0, 0], [0, 4590669220166325589, 4592670820000712477, 4593671619917905920, 4593971859893063953, 4594172019876502642, 4594314991293244563, 4594422219855801003, 4594505619848900456, 4594572339843380019, 4594626928929772389, 4594672419835099363], [0, 4588167220373341981, 4590669220166325589, 4591870180066957721, 4592670820000712477, 4593242705667680159, 4593671619917905920, 4593838419904104827, 4593971859893063953, 4594081038065848692, 4594172019876502642, 0], [0, 4586165620538955093, 4589468260265693457, 4590669220166325589, 4591527048666777112, 4592170420042115755, 4592670820000712477, 4593071139967589853, 4593398674485944072, 4593671619917905920, 0, 0], [0, 4584964660638322960, 4588167220373341981, 4589811391665874067, 4590669220166325589, 4591336420111121219, 4591870180066957721, 4592306892758096679, 4592670820000712477, 0, 0, 0], [0, 4583663620745971483, 4587023449039406616, 4589168020290535424, 4590002020221529960, 4590669220166325589, 4591215111030249285, 4591670020083519032, 0, 0, 0, 0], [0, 4582519849412036123, 4586165620538955093, 4588167220373341981, 4589468260265693457, 4590123329302401893, 4590669220166325589, 0, 0, 0, 0, 0], [0, 4581662020911584597, 4585498420594159464, 4587366580439587227, 4588895074858573576, 4589668420249132145, 0, 0, 0, 0, 0, 0], [0, 4580994820966788971, 4584964660638322960, 4586711511402878789, 4588167220373341981, 0, 0, 0, 0, 0, 0, 0], [0, 4580461061010952464, 4584391475231203077, 4586165620538955093, 0, 0, 0, 0, 0, 0, 0, 0], [0, 4579887875603832587, 4583663620745971483, 0, 0, 0, 0, 0, 0, 0, 0, 0], [0, 4579160021118600992, 0, 0, 0, 0, 0, 0, 0, 0, 0, 0]],
  [[0, 0, 0, 0, 0, 0, 0, 0, 0, 0, 0, 0], [0, 4598175219545276416, 4598675619503873137, 4598925819483171499, 4599075939470750515, 4599176019462469860, 4599247505170840820, 4599301119452119040, 4599342819448668767, 4599376179445908548, 4599403473989104733, 4599426219441768220], [0, 4597174419628082973, 4598175219545276416, 4598475459520434449, 4598675619503873137, 4598818590920615059, 4598925819483171499, 4599009219476270952, 4599075939470750515, 4599130528557142885, 4599176019462469860, 0], [0, 4596674019669486251, 4597574739594960349, 4598175219545276416, 4598389676670389296, 4598550519514223957, 4598675619503873137, 4598775699495592483, 4598857583125181037, 4598925819483171499, 0, 0], [0, 4596373779694328219, 4597174419628082973, 4597746305295050653, 4598175219545276416, 4598342019531475323, 4598475459520434449, 4598584637693219188, 4598675619503873137, 0, 0, 0], [0, 4596173619710889528, 4596888476794599131, 4597424619607381333, 4597841619572878603, 4598175219545276416, 4598311692261257340, 4598425419524574777, 0, 0, 0, 0], [0, 4596030648294147608, 4596674019669486251, 4597174419628082973, 4597574739594960349, 4597902274113314568, 4598175219545276416, 0, 0, 0, 0, 0], [0, 4595923419731591168, 4596507219683287344, 4596974259644644283, 4597356383249390872, 4597674819586679693, 0, 0, 0, 0, 0, 0], [0, 4595840019738491715, 4596373779694328219, 4596810492385467173, 4597174419628082973, 0, 0, 0, 0, 0, 0, 0], [0, 4595773299744012152, 4596264601521543477, 4596674019669486251, 0, 0, 0, 0, 0, 0, 0, 0], [0, 4595718710657619781, 4596173619710889528, 0, 0, 0, 0, 0, 0, 0, 0, 0], [0, 4595673219752292808, 0, 0, 0, 0, 0, 0, 0, 0, 0, 0]],
  [[0, 0, 0, 0, 0, 0, 0, 0, 0, 0, 0, 0], [0, 4601177619296856747, 4601678019255453468, 4601928219234751829, 4602078339222330845, 4602178419214050191, 4602249904922421151, 4602303519203699371, 4602345219200249097, 4602378579197488879, 4602405873740685064, 4602428619193348551], [0, 4600677219338260025, 4601177619296856747, 4601477859272014780, 4601678019255453468, 4601820990672195389, 4601928219234751829, 4602011619227851283, 4602078339222330845, 4602132928308723216, 4602178419214050191, 0], [0, 4600427019358961664, 4600877379321698713, 4601177619296856747, 4601392076421969628, 4601552919265804288, 4601678019255453468, 4601778099247172813, 4601859982876761368, 4601928219234751829, 0, 0], [0, 4600276899371382648, 4600677219338260025, 4600963162171743867, 4601177619296856747, 4601344419283055653, 4601477859272014780, 4601587037444799519, 4601678019255453468, 0, 0, 0], [0, 4600176819379663303, 4600534247921518104, 4600802319327909205, 4601010819310657840, 4601177619296856747, 4601314092012837671, 4601427819276155108, 0, 0, 0, 0], [0, 4600105333671292343, 4600427019358961664, 4600677219338260025, 4600877379321698713, 4601041146580875823, 4601177619296856747, 0, 0, 0, 0, 0], [0, 4600051719390014123, 4600343619365862211, 4600577139346540680, 4600768201148913975, 4600927419317558385, 0, 0, 0, 0, 0, 0], [0, 4600010019393464396, 4600276899371382648, 4600495255716952125, 4600677219338260025, 0, 0, 0, 0, 0, 0, 0], [0, 4599976659396224615, 4600222310284990277, 4600427019358961664, 0, 0, 0, 0, 0, 0, 0, 0], [0, 4599949364853028429, 4600176819379663303, 0, 0, 0, 0, 0, 0, 0, 0, 0], [0, 4599926619400364943, 0, 0, 0, 0, 0, 0, 0, 0, 0, 0]],
  [[0, 0, 0, 0, 0, 0, 0, 0, 0, 0, 0, 0], [0, 4603429419110541995, 4603679619089840356, 4603804719079489536, 4603879779073279044, 4603929819069138716, 4603965561923324196, 4603992369063963307, 4604013219062238171, 4604029899060858061, 4604043546332456153, 4604054919058787897], [0, 4603179219131243633, 4603429419110541995, 4603579539098121011, 4603679619089840356, 4603751104798211316, 4603804719079489536, 4603846419076039263, 4603879779073279044, 4603907073616475229, 4603929819069138716, 0], [0, 4603054119141594453, 4603279299122962979, 4603429419110541995, 4603536647673098435, 4603617069095015765, 4603679619089840356, 4603729659085700028, 4603770600900494305, 4603804719079489536, 0, 0], [0, 4602979059147804945, 4603179219131243633, 4603322190547985555, 4603429419110541995, 4603512819103641448, 4603579539098121011, 4603634128184513381, 4603679619089840356, 0, 0, 0], [0, 4602929019151945273, 4603107733422872673, 4603241769126068224, 4603346019117442541, 4603429419110541995, 4603497655468532456, 4603554519100191175, 0, 0, 0, 0], [0, 4602893276297759793, 4603054119141594453, 4603179219131243633, 4603279299122962979, 4603361182752551532, 4603429419110541995, 0, 0, 0, 0, 0], [0, 4602866469157120683, 4603012419145044727, 4603129179135383961, 4603224710036570608, 4603304319120892815, 0, 0, 0, 0, 0, 0], [0, 4602845619158845819, 4602979059147804945, 4603088237320589684, 4603179219131243633, 0, 0, 0, 0, 0, 0, 0], [0, 4602828939160225928, 4602951764604608760, 4603054119141594453, 0, 0, 0, 0, 0, 0, 0, 0], [0, 4602815291888627836, 4602929019151945273, 0, 0, 0, 0, 0, 0, 0, 0, 0], [0, 4602803919162296092, 0, 0, 0, 0, 0, 0, 0, 0, 0, 0]],
  [[0, 0, 0, 0, 0, 0, 0, 0, 0, 0, 0, 0], [0, 4604930618986332160, 4605180818965630521, 4605305918955279701, 4605380978949069209, 4605431018944928881, 4605466761799114361, 4605493568939753472, 4605514418938028336, 4605531098936648227, 4605544746208246319, 4605556118934578063], [0, 4604680419007033799, 4604930618986332160, 4605080738973911176, 4605180818965630521, 4605252304674001481, 4605305918955279701, 4605347618951829428, 4605380978949069209, 4605408273492265395, 4605431018944928881, 0], [0, 4604555319017384619, 4604780498998753144, 4604930618986332160, 4605037847548888600, 4605118268970805931, 4605180818965630521, 4605230858961490193, 4605271800776284471, 4605305918955279701, 0, 0], [0, 4604480259023595111, 4604680419007033799, 4604823390423775720, 4604930618986332160, 4605014018979431613, 4605080738973911176, 4605135328060303547, 4605180818965630521, 0, 0, 0], [0, 4604430219027735439, 4604608933298662839, 4604742969001858389, 4604847218993232707, 4604930618986332160, 4604998855344322623, 4605055718975981340, 0, 0, 0, 0], [0, 4604394476173549959, 4604555319017384619, 4604680419007033799, 4604780498998753144, 4604862382628341699, 4604930618986332160, 0, 0, 0, 0, 0], [0, 4604367669032910848, 4604513619020834892, 4604630379011174127, 4604725909912360773, 4604805518996682980, 0, 0, 0, 0, 0, 0], [0, 4604346819034635984, 4604480259023595111, 4604589437196379849, 4604680419007033799, 0, 0, 0, 0, 0, 0, 0], [0, 4604330139036016093, 4604452964480398925, 4604555319017384619, 0, 0, 0, 0, 0, 0, 0, 0], [0, 4604316491764418001, 4604430219027735439, 0, 0, 0, 0, 0, 0, 0, 0, 0], [0, 4604305119038086257, 0, 0, 0, 0, 0, 0, 0, 0, 0, 0]],
  [[0, 0, 0, 0, 0, 0, 0, 0, 0, 0, 0, 0], [0, 4606431818862122325, 4606682018841420686, 4606807118831069867, 4606882178824859375, 4606932218820719047, 4606967961674904527, 4606994768815543637, 4607015618813818501, 4607032298812438392, 4607045946084036484, 4607057318810368228], [0, 4606181618882823964, 4606431818862122325, 4606581938849701342, 4606682018841420686, 4606753504549791646, 4606807118831069867, 4606848818827619594, 4606882178824859375, 4606909473368055560, 4606932218820719047, 0], [0, 4606056518893174784, 4606281698874543309, 4606431818862122325, 4606539047424678766, 4606619468846596096, 4606682018841420686, 4606732058837280358, 4606773000652074636, 4606807118831069867, 0, 0], [0, 4605981458899385276, 4606181618882823964, 4606324590299565885, 4606431818862122325, 4606515218855221779, 4606581938849701342, 4606636527936093712, 4606682018841420686, 0, 0, 0], [0, 4605931418903525604, 4606110133174453004, 4606244168877648555, 4606348418869022872, 4606431818862122325, 4606500055220112787, 4606556918851771506, 0, 0, 0, 0], [0, 4605895676049340123, 4606056518893174784, 4606181618882823964, 4606281698874543309, 4606363582504131863, 4606431818862122325, 0, 0, 0, 0, 0], [0, 4605868868908701013, 4606014818896625057, 4606131578886964292, 4606227109788150939, 4606306718872473145, 0, 0, 0, 0, 0, 0], [0, 4605848018910426150, 4605981458899385276, 4606090637072170015, 4606181618882823964, 0, 0, 0, 0, 0, 0, 0], [0, 4605831338911806259, 4605954164356189091, 4606056518893174784, 0, 0, 0, 0, 0, 0, 0, 0], [0, 4605817691640208167, 4605931418903525604, 0, 0, 0, 0, 0, 0, 0, 0, 0], [0, 4605806318913876423, 0, 0, 0, 0, 0, 0, 0, 0, 0, 0]]]
noncomputable def hT (p : Nat) (a b : Int) : UInt64 := UInt64.ofNat (((hueTab.getD p []).getD a.toNat []).getD b.toNat 0)
theorem hT_okBy : ∀ p : Nat, p < 6 → ∀ a : Nat, a < 12 → ∀ b : Nat, b < 12 → a = 0 ∨ b = 0 ∨ 12 < a + b ∨ hS p a b = hT p a b
  | 0, _ => by decide +kernel
  | 1, _ => by decide +kernel
  | 2, _ => by decide +kernel
  | 3, _ => by decide +kernel
  | 4, _ => by decide +kernel
  | 5, _ => by decide +kernel
  | k + 6, h => absurd h (Nat.not_lt.mpr (Nat.le_add_left 6 k))
theorem hT_ok : ∀ p : Nat, p < 6 → ∀ a : Nat, a < 12 → ∀ b : Nat, b < 12 → a = 0 ∨ b = 0 ∨ 12 < a + b ∨ hS p a b = hT p a b := hT_okBy
/-- the corners' hues, written out -/
noncomputable def mkT (p : Nat) : UInt64 := UInt64.ofNat ([0, 4595172819793696085, 4599676419421066581, 4602678819172646912, 4604180019048437077, 4605681218924227243].getD p 0)
theorem mkT_ok : ∀ p : Nat, p < 6 → mkI p = mkT p := by decide +kernel
noncomputable def plN (H : UInt64) : Nat := markN (mkT 0) (mkT 1) (mkT 2) (mkT 3) (mkT 4) (mkT 5) H
end
/-! text Pl3 -/
section
theorem linesPl3x1 : True := by
  k_with_none
  k_with "mine enter" => ((refine' enter ?k2z382 ?k3z382 ?k4z382 ?k5z382 ?k6z382 ?k7z382 ?k8z382 ?k9z382 ?kBz382 ?_ ?c2z382 ?c3z382 ?c4z382 ?c5z382; (case k2z382 => k_asm); (case k3z382 => k_asm); (case k4z382 => k_asm); (case k5z382 => k_asm); (case k6z382 => k_is); (case k7z382 => k_is); (case k8z382 => ktr_room); (case k9z382 => exact BindsTo.of_eq rfl); (case c5z382 => decide); (case kBz382 => exact locs rfl); (case c2z382 => exact rfl); (case c3z382 => exact rfl); (case c4z382 => exact rfl); k_whole))
  k_with "mine keeps" => (((with_reducible rename Keeps _ _ _ => kK); (have F' := frAfter0 (by k_asm) kK); (have N' := newsAfter0 (by k_asm) kK); clear kK; (try k_sweep)))
  k_with "mine made" => (((with_reducible rename Keeps _ _ _ => kK); rename (Heap.get? _ _ = none) => kn; rename (Heap.get? _ _ = some _) => ks; (have l1 := allNe_of (by k_asm) kn); (have N' := newsIn (by k_asm) kn ks (newsAfter0 (by k_asm) kK)); (have F' := frAfter0 (by k_asm) kK); clear kK kn ks; (try k_sweep)))
  trivial
variable {pg : Program} {lz : List Str} {w : World} {mean : ExcName → Option Value} {mg mb : Str → Option Value}
   {dp un : Nat} {gd : Option (List Code)} {cn : Str} {cs : Scope} {a : Addr} {ccd : Value} {cl : List (Str × Addr)} {outer : List Env} {h₀ : Heap} {L : Addr} {m : Str → Option Value} {s : Shared} {Q E : Value → Shared → Prop}
/-- what is asked of the entry that the search finds, of the two last bounds and of Euclid's run -/
noncomputable def endOk (p P Q : Nat) (H : UInt64) (md lo up : Ent) (wd : Str) : Bool :=
  match eucF 12 (Q : Int) (P : Int) "" true with
  | none => false
  | some (wq, g) =>
    decide (g = gI P Q) && decide (Txt.slice wq none (some (-1)) = wd) &&
    decide (1 ≤ g ∧ g ≤ 12) &&
    decide (md.r = ((P * cR p + Q * cR (nx p) : Nat) : Int).fdiv g ∧ md.g = ((P * cG p + Q * cG (nx p) : Nat) : Int).fdiv g ∧ md.b = ((P * cB p + Q * cB (nx p) : Nat) : Int).fdiv g ∧ md.n = ((P + Q : Nat) : Int).fdiv g ∧ md.p = (P : Int).fdiv g ∧ md.q = (Q : Int).fdiv g ∧ md.p + md.q = md.n) &&
    decide (0 ≤ md.r ∧ md.r ≤ 12 ∧ 0 ≤ md.g ∧ md.g ≤ 12 ∧ 0 ≤ md.b ∧ md.b ≤ 12 ∧ 1 ≤ md.n ∧ md.n ≤ 12 ∧ max md.r (max md.g md.b) = md.n ∧ min md.r (min md.g md.b) = 0) &&
    (Float64.cmp (hT p md.p md.q) H == some .eq) && decide (1 ≤ md.p ∧ md.p ≤ 11 ∧ 1 ≤ md.q ∧ md.q ≤ 11 ∧ md.p + md.q ≤ 12 ∧ md.r = md.p * cR p + md.q * cR (nx p) ∧ md.g = md.p * cG p + md.q * cG (nx p) ∧ md.b = md.p * cB p + md.q * cB (nx p)) &&
    decide (1 ≤ (P : Int).fdiv g ∧ (P : Int).fdiv g ≤ 12 ∧ 1 ≤ (Q : Int).fdiv g ∧ (Q : Int).fdiv g ≤ 12) &&
    decide (0 ≤ lo.p * (Q : Int).fdiv g - 1 ∧ lo.p * (Q : Int).fdiv g - 1 ≤ 144 ∧ (lo.p * (Q : Int).fdiv g - 1).fdiv ((P : Int).fdiv g) = lo.q ∧ (lo.p * (Q : Int).fdiv g - 1).fmod ((P : Int).fdiv g) = 0) &&
    decide (0 ≤ up.q * (P : Int).fdiv g - 1 ∧ up.q * (P : Int).fdiv g - 1 ≤ 144 ∧ (up.q * (P : Int).fdiv g - 1).fdiv ((Q : Int).fdiv g) = up.p ∧ (up.q * (P : Int).fdiv g - 1).fmod ((Q : Int).fdiv g) = 0)
noncomputable def chkS (p P Q : Nat) : Bool :=
  decide (plN (hT p P Q) = p + 1) &&
  match srchI (hT p) (hT p P Q) 12 (entL p) (entU (nx p)) "" with
  | none => false
  | some (md, lo, up, wd) => endOk p P Q (hT p P Q) md lo up wd
theorem chkS_okBy : ∀ p : Nat, p < 6 → ∀ a : Nat, a < 12 → ∀ b : Nat, b < 12 → a = 0 ∨ b = 0 ∨ 12 < a + b ∨ chkS p a b = true
  | 0, _ => by decide +kernel
  | 1, _ => by decide +kernel
  | 2, _ => by decide +kernel
  | 3, _ => by decide +kernel
  | 4, _ => by decide +kernel
  | 5, _ => by decide +kernel
  | k + 6, h => absurd h (Nat.not_lt.mpr (Nat.le_add_left 6 k))
theorem chkS_ok : ∀ p : Nat, p < 6 → ∀ a : Nat, a < 12 → ∀ b : Nat, b < 12 → a = 0 ∨ b = 0 ∨ 12 < a + b ∨ chkS p a b = true := chkS_okBy
/-- what the light is -/
inductive Plan (x y z lo hi st : Int) (H : UInt64) : Prop
  | grey : lo = hi → H = 0 → Plan x y z lo hi st H
  | corner (p : Nat) : p < 6 → lo < hi → leadI x y z hi = codeN p → bothI x y z lo = codeN p → plN H = p + 1 → eqF H (mkT p) = true → Plan x y z lo hi st H
  | sector (p P Q : Nat) (md lo' up' : Ent) (wd wq : Str) : p < 6 → lo < hi → 1 ≤ P ∧ P ≤ 11 ∧ 1 ≤ Q ∧ Q ≤ 11 →
      ((leadI x y z hi = codeN p ∧ bothI x y z lo = codeN (nx p) ∧ (P : Int) = hi - st ∧ (Q : Int) = st - lo) ∨ (leadI x y z hi = codeN (nx p) ∧ bothI x y z lo = codeN p ∧ (P : Int) = st - lo ∧ (Q : Int) = hi - st)) →
      plN H = p + 1 → srch H 12 (entL p) (entU (nx p)) "" = some (md, lo', up', wd) → eucF 12 (Q : Int) (P : Int) "" true = some (wq, gI P Q) → Txt.slice wq none (some (-1)) = wd → 1 ≤ gI P Q ∧ gI P Q ≤ 12 →
      (md.r = (x - lo).fdiv (gI P Q) ∧ md.g = (y - lo).fdiv (gI P Q) ∧ md.b = (z - lo).fdiv (gI P Q) ∧ md.n = (hi - lo).fdiv (gI P Q) ∧ md.p = (P : Int).fdiv (gI P Q) ∧ md.q = (Q : Int).fdiv (gI P Q) ∧ md.p + md.q = md.n) →
      (0 ≤ md.r ∧ md.r ≤ 12 ∧ 0 ≤ md.g ∧ md.g ≤ 12 ∧ 0 ≤ md.b ∧ md.b ≤ 12) → (1 ≤ md.n ∧ md.n ≤ 12) → (max md.r (max md.g md.b) = md.n ∧ min md.r (min md.g md.b) = 0) →
      eqF (hueF (dF md.r) (dF md.g) (dF md.b)) H = true → (1 ≤ (P : Int).fdiv (gI P Q) ∧ (P : Int).fdiv (gI P Q) ≤ 12 ∧ 1 ≤ (Q : Int).fdiv (gI P Q) ∧ (Q : Int).fdiv (gI P Q) ≤ 12) →
      (0 ≤ lo'.p * (Q : Int).fdiv (gI P Q) - 1 ∧ lo'.p * (Q : Int).fdiv (gI P Q) - 1 ≤ 144 ∧ (lo'.p * (Q : Int).fdiv (gI P Q) - 1).fdiv ((P : Int).fdiv (gI P Q)) = lo'.q ∧ (lo'.p * (Q : Int).fdiv (gI P Q) - 1).fmod ((P : Int).fdiv (gI P Q)) = 0) →
      (0 ≤ up'.q * (P : Int).fdiv (gI P Q) - 1 ∧ up'.q * (P : Int).fdiv (gI P Q) - 1 ≤ 144 ∧ (up'.q * (P : Int).fdiv (gI P Q) - 1).fdiv ((Q : Int).fdiv (gI P Q)) = up'.p ∧ (up'.q * (P : Int).fdiv (gI P Q) - 1).fmod ((Q : Int).fdiv (gI P Q)) = 0) → Plan x y z lo hi st H
end
/-! text Pl4 -/
section
theorem linesPl4x1 : True := by
  k_with_none
  k_with "mine enter" => ((refine' enter ?k2z385 ?k3z385 ?k4z385 ?k5z385 ?k6z385 ?k7z385 ?k8z385 ?k9z385 ?kBz385 ?_ ?c2z385 ?c3z385 ?c4z385 ?c5z385; (case k2z385 => k_asm); (case k3z385 => k_asm); (case k4z385 => k_asm); (case k5z385 => k_asm); (case k6z385 => k_is); (case k7z385 => k_is); (case k8z385 => ktr_room); (case k9z385 => exact BindsTo.of_eq rfl); (case c5z385 => decide); (case kBz385 => exact locs rfl); (case c2z385 => exact rfl); (case c3z385 => exact rfl); (case c4z385 => exact rfl); k_whole))
  k_with "mine keeps" => (((with_reducible rename Keeps _ _ _ => kK); (have F' := frAfter0 (by k_asm) kK); (have N' := newsAfter0 (by k_asm) kK); clear kK; (try k_sweep)))
  k_with "mine made" => (((with_reducible rename Keeps _ _ _ => kK); rename (Heap.get? _ _ = none) => kn; rename (Heap.get? _ _ = some _) => ks; (have l1 := allNe_of (by k_asm) kn); (have N' := newsIn (by k_asm) kn ks (newsAfter0 (by k_asm) kK)); (have F' := frAfter0 (by k_asm) kK); clear kK kn ks; (try k_sweep)))
  trivial
variable {pg : Program} {lz : List Str} {w : World} {mean : ExcName → Option Value} {mg mb : Str → Option Value}
   {dp un : Nat} {gd : Option (List Code)} {cn : Str} {cs : Scope} {a : Addr} {ccd : Value} {cl : List (Str × Addr)} {outer : List Env} {h₀ : Heap} {L : Addr} {m : Str → Option Value} {s : Shared} {Q E : Value → Shared → Prop}
/-- an entry is what its callers make of it -/
noncomputable def Lin (p : Nat) (e : Ent) : Prop := e.r = e.p * (cR p : Int) + e.q * (cR (nx p) : Int) ∧ e.g = e.p * (cG p : Int) + e.q * (cG (nx p) : Int) ∧ e.b = e.p * (cB p : Int) + e.q * (cB (nx p) : Int)
theorem Lin.add {p : Nat} {l u : Ent} (a : Lin p l) (b : Lin p u) : Lin p (l.add u) := by
  obtain ⟨a1, a2, a3⟩ := a
  obtain ⟨b1, b2, b3⟩ := b
  refine ⟨?_, ?_, ?_⟩ <;> simp only [Ent.add] <;> rw [Int.add_mul, Int.add_mul] <;> omega
theorem Lin.low (p : Nat) : Lin p (entL p) := by refine ⟨?_, ?_, ?_⟩ <;> simp [entL]
theorem Lin.upp (p : Nat) : Lin p (entU (nx p)) := by refine ⟨?_, ?_, ?_⟩ <;> simp [entU]
theorem sumLe {p : Nat} (hp : p < 6) {e : Ent} (h : Lin p e) (k : e.okI = true) : 1 ≤ e.p ∧ 1 ≤ e.q ∧ e.p + e.q ≤ 12 := by
  simp only [Ent.okI, decide_eq_true_eq] at k
  obtain ⟨h1, h2, h3⟩ := h
  have : p = 0 ∨ p = 1 ∨ p = 2 ∨ p = 3 ∨ p = 4 ∨ p = 5 := by omega
  rcases this with rfl | rfl | rfl | rfl | rfl | rfl <;> simp [cR, cG, cB, nx] at h1 h2 h3 <;> omega
theorem hueI {e : Ent} (h : 0 ≤ e.r ∧ e.r ≤ 12 ∧ 0 ≤ e.g ∧ e.g ≤ 12 ∧ 0 ≤ e.b ∧ e.b ≤ 12) : e.hue = hI e.r.toNat e.g.toNat e.b.toNat ∧ hsvOk (dF e.r) (dF e.g) (dF e.b) = true := by
  have h1 := hue_eq (x := e.r.toNat) (y := e.g.toNat) (z := e.b.toNat) (by omega) (by omega) (by omega)
  have h2 := hsv_all (x := e.r.toNat) (y := e.g.toNat) (z := e.b.toNat) (by omega) (by omega) (by omega)
  rw [show ((e.r.toNat : Nat) : Int) = e.r by omega, show ((e.g.toNat : Nat) : Int) = e.g by omega, show ((e.b.toNat : Nat) : Int) = e.b by omega] at h1 h2
  exact ⟨h1, h2⟩
theorem linNat {p : Nat} {e : Ent} (h : Lin p e) (h1 : 0 ≤ e.p) (h2 : 0 ≤ e.q) : e.r.toNat = e.p.toNat * cR p + e.q.toNat * cR (nx p) ∧ e.g.toNat = e.p.toNat * cG p + e.q.toNat * cG (nx p) ∧ e.b.toNat = e.p.toNat * cB p + e.q.toNat * cB (nx p) := by
  obtain ⟨a, b, c⟩ := h
  obtain ⟨P, hP⟩ := Int.eq_ofNat_of_zero_le h1
  obtain ⟨Q, hQ⟩ := Int.eq_ofNat_of_zero_le h2
  rw [hP, hQ] at a b c ⊢
  rw [a, b, c]
  refine ⟨?_, ?_, ?_⟩ <;> (simp only [Int.toNat_natCast]; omega)
theorem hueT {p : Nat} (hp : p < 6) {e : Ent} (h : Lin p e) (k : e.okI = true) : e.hue = hT p e.p e.q ∧ hsvOk (dF e.r) (dF e.g) (dF e.b) = true := by
  obtain ⟨s1, s2, s3⟩ := sumLe hp h k
  simp only [Ent.okI, decide_eq_true_eq] at k
  obtain ⟨q1, q2⟩ := hueI (e := e) ⟨k.1, k.2.1, k.2.2.1, k.2.2.2.1, k.2.2.2.2.1, k.2.2.2.2.2.1⟩
  refine ⟨?_, q2⟩
  obtain ⟨n1, n2, n3⟩ := linNat h (by omega) (by omega)
  rw [q1, n1, n2, n3]
  have := hT_ok p hp e.p.toNat (by omega) e.q.toNat (by omega)
  rcases this with h | h | h | h
  · omega
  · omega
  · omega
  · show hS p e.p.toNat e.q.toNat = _
    rw [h, show ((e.p.toNat : Nat) : Int) = e.p by omega, show ((e.q.toNat : Nat) : Int) = e.q by omega]
theorem okOf {e : Ent} (k : e.okI = true) (q : hsvOk (dF e.r) (dF e.g) (dF e.b) = true) : e.ok = true := by
  simp only [Ent.ok, Bool.and_eq_true]
  exact ⟨k, q⟩
theorem srch_of {p : Nat} (hp : p < 6) {H : UInt64} {r : Ent × Ent × Ent × Str} : ∀ (k : Nat) (l u : Ent) (wd : Str), Lin p l → Lin p u → srchI (hT p) H k l u wd = some r → srch H k l u wd = some r
  | 0, _, _, _, _, _, h => nomatch h
  | k + 1, l, u, wd, hl, hu, h => by
    have ha := hl.add hu
    unfold srchI at h
    unfold srch
    by_cases hk : (l.add u).okI = true
    · rw [if_pos hk] at h
      obtain ⟨e1, e2⟩ := hueT hp ha hk
      rw [if_pos (okOf hk e2), e1]
      unfold eqF ltF
      cases hc : Float64.cmp (hT p (l.add u).p (l.add u).q) H with
      | none =>
        rw [hc] at h
        exact srch_of hp k _ _ _ hl ha h
      | some o =>
        rw [hc] at h
        cases o with
        | lt => exact srch_of hp k _ _ _ ha hu h
        | eq => exact h
        | gt => exact srch_of hp k _ _ _ hl ha h
    · rw [if_neg hk] at h; cases h
end
/-! text Pl5 -/
section
theorem linesPl5x1 : True := by
  k_with_none
  k_with "mine enter" => ((refine' enter ?k2z388 ?k3z388 ?k4z388 ?k5z388 ?k6z388 ?k7z388 ?k8z388 ?k9z388 ?kBz388 ?_ ?c2z388 ?c3z388 ?c4z388 ?c5z388; (case k2z388 => k_asm); (case k3z388 => k_asm); (case k4z388 => k_asm); (case k5z388 => k_asm); (case k6z388 => k_is); (case k7z388 => k_is); (case k8z388 => ktr_room); (case k9z388 => exact BindsTo.of_eq rfl); (case c5z388 => decide); (case kBz388 => exact locs rfl); (case c2z388 => exact rfl); (case c3z388 => exact rfl); (case c4z388 => exact rfl); k_whole))
  k_with "mine keeps" => (((with_reducible rename Keeps _ _ _ => kK); (have F' := frAfter0 (by k_asm) kK); (have N' := newsAfter0 (by k_asm) kK); clear kK; (try k_sweep)))
  k_with "mine made" => (((with_reducible rename Keeps _ _ _ => kK); rename (Heap.get? _ _ = none) => kn; rename (Heap.get? _ _ = some _) => ks; (have l1 := allNe_of (by k_asm) kn); (have N' := newsIn (by k_asm) kn ks (newsAfter0 (by k_asm) kK)); (have F' := frAfter0 (by k_asm) kK); clear kK kn ks; (try k_sweep)))
  trivial
variable {pg : Program} {lz : List Str} {w : World} {mean : ExcName → Option Value} {mg mb : Str → Option Value}
   {dp un : Nat} {gd : Option (List Code)} {cn : Str} {cs : Scope} {a : Addr} {ccd : Value} {cl : List (Str × Addr)} {outer : List Env} {h₀ : Heap} {L : Addr} {m : Str → Option Value} {s : Shared} {Q E : Value → Shared → Prop}
noncomputable def cls (x y z : Nat) : Bool :=
  decide (min x (min y z) = max x (max y z)) || (List.range 6).any fun p =>
    (decide (leadI x y z (max x (max y z) : Nat) = codeN p) &&
      ((decide (bothI x y z (min x (min y z) : Nat) = codeN p) && decide (x = min x (min y z) + (max x (max y z) - min x (min y z)) * cR p ∧ y = min x (min y z) + (max x (max y z) - min x (min y z)) * cG p ∧ z = min x (min y z) + (max x (max y z) - min x (min y z)) * cB p))
      || (decide (bothI x y z (min x (min y z) : Nat) = codeN (nx p)) && decide (2 * min x (min y z) + max x (max y z) < x + y + z ∧ x + y + z < min x (min y z) + 2 * max x (max y z)) &&
          decide (x = min x (min y z) + ((2 * max x (max y z) + min x (min y z) - (x + y + z)) * cR p + (x + y + z - 2 * min x (min y z) - max x (max y z)) * cR (nx p)) ∧ y = min x (min y z) + ((2 * max x (max y z) + min x (min y z) - (x + y + z)) * cG p + (x + y + z - 2 * min x (min y z) - max x (max y z)) * cG (nx p)) ∧ z = min x (min y z) + ((2 * max x (max y z) + min x (min y z) - (x + y + z)) * cB p + (x + y + z - 2 * min x (min y z) - max x (max y z)) * cB (nx p))))))
    || (decide (leadI x y z (max x (max y z) : Nat) = codeN (nx p)) && decide (bothI x y z (min x (min y z) : Nat) = codeN p) && decide (2 * min x (min y z) + max x (max y z) < x + y + z ∧ x + y + z < min x (min y z) + 2 * max x (max y z)) &&
          decide (x = min x (min y z) + ((x + y + z - 2 * min x (min y z) - max x (max y z)) * cR p + (2 * max x (max y z) + min x (min y z) - (x + y + z)) * cR (nx p)) ∧ y = min x (min y z) + ((x + y + z - 2 * min x (min y z) - max x (max y z)) * cG p + (2 * max x (max y z) + min x (min y z) - (x + y + z)) * cG (nx p)) ∧ z = min x (min y z) + ((x + y + z - 2 * min x (min y z) - max x (max y z)) * cB p + (2 * max x (max y z) + min x (min y z) - (x + y + z)) * cB (nx p))))
theorem cls_okBy : ∀ x : Nat, x < 13 → ∀ y : Nat, y < 13 → ∀ z : Nat, z < 13 → cls x y z = true
  | 0, _ => by decide +kernel
  | 1, _ => by decide +kernel
  | 2, _ => by decide +kernel
  | 3, _ => by decide +kernel
  | 4, _ => by decide +kernel
  | 5, _ => by decide +kernel
  | 6, _ => by decide +kernel
  | 7, _ => by decide +kernel
  | 8, _ => by decide +kernel
  | 9, _ => by decide +kernel
  | 10, _ => by decide +kernel
  | 11, _ => by decide +kernel
  | 12, _ => by decide +kernel
  | k + 13, h => absurd h (Nat.not_lt.mpr (Nat.le_add_left 13 k))
theorem cls_ok : ∀ x : Nat, x < 13 → ∀ y : Nat, y < 13 → ∀ z : Nat, z < 13 → cls x y z = true := cls_okBy
theorem corn_ok : ∀ p : Nat, p < 6 → ∀ d : Nat, d < 13 → d = 0 ∨ (plN (hI (d * cR p) (d * cG p) (d * cB p)) = p + 1 ∧ eqF (hI (d * cR p) (d * cG p) (d * cB p)) (mkT p) = true) := by decide +kernel
/-- the parts less the least, as the two steps make them -/
theorem offs {x y z lo a b c s : Nat} {st hi : Int} (hx : x = lo + a) (hy : y = lo + b) (hz : z = lo + c) (hh : hi = lo + s) : x - lo = a ∧ y - lo = b ∧ z - lo = c ∧ (x : Int) - (lo : Int) = (a : Int) ∧ (y : Int) - (lo : Int) = (b : Int) ∧ (z : Int) - (lo : Int) = (c : Int) ∧ hi - (lo : Int) = (s : Int) := by
  subst hx hy hz hh
  refine ⟨Nat.add_sub_cancel_left .., Nat.add_sub_cancel_left .., Nat.add_sub_cancel_left .., ?_, ?_, ?_, ?_⟩ <;> omega
theorem pq12 {p q : Int} (h1 : 1 ≤ p) (h2 : p ≤ 11) (h3 : 1 ≤ q) (h4 : q ≤ 11) : 0 ≤ p ∧ p ≤ 12 ∧ 0 ≤ q ∧ q ≤ 12 ∧ p ≠ 0 ∧ q ≠ 0 := by omega
theorem small {P Q : Nat} (hP : 1 ≤ P) (hQ : 1 ≤ Q) (hs : P + Q ≤ 12) : P < 12 ∧ Q < 12 ∧ 1 ≤ P ∧ P ≤ 11 ∧ 1 ≤ Q ∧ Q ≤ 11 := by omega
theorem dif12 {lo hi : Nat} (h : lo < hi) (g : hi < 13) : hi - lo < 13 ∧ hi - lo ≠ 0 ∧ (lo : Int) < (hi : Int) := by omega
theorem sect_of {x y z p P Q lo hi : Nat} (hp : p < 6) (hP : 1 ≤ P) (hQ : 1 ≤ Q) (hs : P + Q ≤ 12) (hlo : lo = min x (min y z)) (hhi : hi = lo + (P + Q)) (hx13 : x < 13) (hy13 : y < 13) (hz13 : z < 13)
    (hx : x = lo + (P * cR p + Q * cR (nx p))) (hy : y = lo + (P * cG p + Q * cG (nx p))) (hz : z = lo + (P * cB p + Q * cB (nx p))) {st : Int}
    (hlb : (leadI x y z hi = codeN p ∧ bothI x y z lo = codeN (nx p) ∧ (P : Int) = hi - st ∧ (Q : Int) = st - lo) ∨ (leadI x y z hi = codeN (nx p) ∧ bothI x y z lo = codeN p ∧ (P : Int) = st - lo ∧ (Q : Int) = hi - st)) :
    Plan x y z lo hi st (hueF (dF x) (dF y) (dF z)) := by
  have l123 : lo ≤ x ∧ lo ≤ y ∧ lo ≤ z := by
    rw [hlo]; exact ⟨Nat.min_le_left _ _, Nat.le_trans (Nat.min_le_right _ _) (Nat.min_le_left _ _), Nat.le_trans (Nat.min_le_right _ _) (Nat.min_le_right _ _)⟩
  clear hlo
  obtain ⟨o1, o2, o3, ex, ey, ez, eh⟩ := offs (st := st) (hi := (hi : Int)) hx hy hz (s := P + Q) (by clear hlb hx hy hz; omega)
  obtain ⟨hP13, hQ13, hpq⟩ := small hP hQ hs
  have hloi : (lo : Int) < (hi : Int) := by rw [hhi]; exact Int.ofNat_lt.mpr (Nat.lt_add_of_pos_right (Nat.add_pos_left hP Q))
  have hP0 : P ≠ 0 := Nat.ne_of_gt hP
  have hQ0 : Q ≠ 0 := Nat.ne_of_gt hQ
  have hlt : ¬ 12 < P + Q := Nat.not_lt.mpr hs
  have hH : hueF (dF x) (dF y) (dF z) = hT p P Q := by
    rw [hue_eq hx13 hy13 hz13, hI_low l123, o1, o2, o3]
    rcases hT_ok p hp P hP13 Q hQ13 with h | h | h | h
    · exact absurd h hP0
    · exact absurd h hQ0
    · exact absurd h hlt
    · exact h
  rw [hH]
  have hc : chkS p P Q = true := by
    rcases chkS_ok p hp P hP13 Q hQ13 with h | h | h | h
    · exact absurd h hP0
    · exact absurd h hQ0
    · exact absurd h hlt
    · exact h
  unfold chkS at hc
  rw [Bool.and_eq_true] at hc
  obtain ⟨hn, hc⟩ := hc
  cases hsr : srchI (hT p) (hT p P Q) 12 (entL p) (entU (nx p)) "" with
  | none => rw [hsr] at hc; cases hc
  | some r =>
    obtain ⟨md, l', u', wd⟩ := r
    rw [hsr] at hc
    simp only at hc
    unfold endOk at hc
    cases he : eucF 12 (Q : Int) (P : Int) "" true with
    | none => rw [he] at hc; cases hc
    | some r =>
      obtain ⟨wq, g⟩ := r
      rw [he] at hc
      simp only [Bool.and_eq_true, decide_eq_true_eq] at hc
      obtain ⟨⟨⟨⟨⟨⟨⟨⟨⟨hg, hw⟩, hg12⟩, hmd⟩, hb⟩, hcmp⟩, hlin⟩, hdv⟩, h1⟩, h4⟩ := hc
      subst hg
      have hL : Lin p md := ⟨hlin.2.2.2.2.2.1, hlin.2.2.2.2.2.2.1, hlin.2.2.2.2.2.2.2⟩
      have hk : md.okI = true := by
        simp only [Ent.okI, decide_eq_true_eq]
        exact ⟨hb.1, hb.2.1, hb.2.2.1, hb.2.2.2.1, hb.2.2.2.2.1, hb.2.2.2.2.2.1, pq12 hlin.1 hlin.2.1 hlin.2.2.1 hlin.2.2.2.1⟩
      have hhu := (hueT hp hL hk).1
      refine Plan.sector p P Q md l' u' wd wq hp hloi hpq hlb (of_decide_eq_true hn) (srch_of hp 12 _ _ _ (Lin.low p) (Lin.upp p) hsr) he hw hg12 ?_ ⟨hb.1, hb.2.1, hb.2.2.1, hb.2.2.2.1, hb.2.2.2.2.1, hb.2.2.2.2.2.1⟩ ⟨hb.2.2.2.2.2.2.1, hb.2.2.2.2.2.2.2.1⟩ ⟨hb.2.2.2.2.2.2.2.2.1, hb.2.2.2.2.2.2.2.2.2⟩ ?_ hdv h1 h4
      · rw [ex, ey, ez, eh]; exact hmd
      · show eqF md.hue _ = true
        rw [hhu]; exact hcmp
theorem steps_of {x y z lo hi : Nat} (l : lo ≤ x ∧ lo ≤ y ∧ lo ≤ z) (g : x ≤ hi ∧ y ≤ hi ∧ z ≤ hi) (g4 : hi < 13) (hd : 2 * lo + hi < x + y + z ∧ x + y + z < lo + 2 * hi) {st : Int} (est : st = x + y + z - (lo : Nat) - (hi : Nat)) :
    1 ≤ 2 * hi + lo - (x + y + z) ∧ 1 ≤ x + y + z - 2 * lo - hi ∧ (2 * hi + lo - (x + y + z)) + (x + y + z - 2 * lo - hi) ≤ 12 ∧ hi = lo + ((2 * hi + lo - (x + y + z)) + (x + y + z - 2 * lo - hi)) ∧ ((2 * hi + lo - (x + y + z) : Nat) : Int) = hi - st ∧ ((x + y + z - 2 * lo - hi : Nat) : Int) = st - lo := by
  obtain ⟨P, hP⟩ : ∃ P, P + (x + y + z) = 2 * hi + lo := ⟨2 * hi + lo - (x + y + z), by omega⟩
  obtain ⟨Q, hQ⟩ : ∃ Q, Q + (2 * lo + hi) = x + y + z := ⟨x + y + z - (2 * lo + hi), by omega⟩
  have e1 : 2 * hi + lo - (x + y + z) = P := by rw [← hP]; exact Nat.add_sub_cancel ..
  have e2 : x + y + z - 2 * lo - hi = Q := by rw [← hQ, Nat.sub_sub]; exact Nat.add_sub_cancel ..
  rw [e1, e2]
  clear e1 e2
  refine ⟨by omega, by omega, by omega, by omega, by omega, by omega⟩
theorem plan_of {x y z : Nat} (hx : x < 13) (hy : y < 13) (hz : z < 13) {st : Int} (est : st = x + y + z - (min x (min y z) : Nat) - (max x (max y z) : Nat)) : Plan x y z (min x (min y z) : Nat) (max x (max y z) : Nat) st (hueF (dF x) (dF y) (dF z)) := by
  have hc := cls_ok x hx y hy z hz
  unfold cls at hc
  obtain ⟨g4, hlh, g1, g2, g3, l1, l2, l3⟩ := mm3 hx hy hz
  have hgrey : min x (min y z) = max x (max y z) → hueF (dF x) (dF y) (dF z) = 0 := fun e => by
    rw [hue_eq hx hy hz]; unfold hI; rw [if_pos e.symm]
  generalize hlo : min x (min y z) = lo at *
  generalize hhi : max x (max y z) = hi at *
  rw [Bool.or_eq_true] at hc
  rcases hc with hc | hc
  · have e := of_decide_eq_true hc
    exact Plan.grey (congrArg _ e) (hgrey e)
  · obtain ⟨p, hp, hc⟩ := List.any_eq_true.mp hc
    have hp6 : p < 6 := List.mem_range.mp hp
    simp only [Bool.or_eq_true, Bool.and_eq_true, decide_eq_true_eq] at hc
    rcases hc with ⟨hld, hc⟩ | ⟨⟨⟨hld, hbo⟩, hd⟩, hx', hy', hz'⟩
    · rcases hc with ⟨hbo, hx', hy', hz'⟩ | ⟨⟨hbo, hd⟩, hx', hy', hz'⟩
      · by_cases hlt : lo < hi
        · have hH : hueF (dF x) (dF y) (dF z) = hI ((hi - lo) * cR p) ((hi - lo) * cG p) ((hi - lo) * cB p) := by
            rw [hue_eq hx hy hz, hI_low (l := lo) ⟨l1, l2, l3⟩]
            obtain ⟨o1, o2, o3, _⟩ := offs (st := st) (hi := (lo : Int)) hx' hy' hz' (s := 0) (by simp)
            rw [o1, o2, o3]
          obtain ⟨f1, f2, f3⟩ := dif12 hlt g4
          rcases corn_ok p hp6 (hi - lo) f1 with h | ⟨h1, h2⟩
          · exact absurd h f2
          · exact Plan.corner p hp6 f3 hld hbo (by rw [hH]; exact h1) (by rw [hH]; exact h2)
        · have e : lo = hi := Nat.le_antisymm hlh (Nat.le_of_not_lt hlt)
          exact Plan.grey (congrArg _ e) (hgrey e)
      · obtain ⟨s1, s2, s3, s4, s5, s6⟩ := steps_of ⟨l1, l2, l3⟩ ⟨g1, g2, g3⟩ g4 hd est
        exact sect_of (P := 2 * hi + lo - (x + y + z)) (Q := x + y + z - 2 * lo - hi) hp6 s1 s2 s3 hlo.symm s4 hx hy hz hx' hy' hz' (.inl ⟨hld, hbo, s5, s6⟩)
    · obtain ⟨s1, s2, s3, s4, s5, s6⟩ := steps_of ⟨l1, l2, l3⟩ ⟨g1, g2, g3⟩ g4 hd est
      exact sect_of (P := x + y + z - 2 * lo - hi) (Q := 2 * hi + lo - (x + y + z)) hp6 s2 s1 (by rw [Nat.add_comm]; exact s3) hlo.symm (by rw [Nat.add_comm (x + y + z - 2 * lo - hi)]; exact s4) hx hy hz hx' hy' hz' (.inr ⟨hld, hbo, s6, s5⟩)
end
/-! text Mz1 -/
section
section
variable {prog : Program} {w : World} {A : Around} {s : Shared} {h₀ : Heap} {L : Addr} {m : Str → Option Value} {news : List (Addr × Obj)} {K : Frag} {p : Program} {loose : List Str} {mean : ExcName → Option Value} {mg mb : Str → Option Value}
  {R : Result → Shared → Prop} {name qual : Str} {params : Arguments} {body : List Stmt} {scope : Scope} {dV kV doc pm cdv ct oc : Value} {an od : Option Addr} {osl : Array (Option Value)} {f : Addr} {args : Args} {binds : List (Str × Value)}
theorem enterCT (F : Fr h₀ L s.heap m) (X₀ : K.In h₀) (N : News h₀ L s.heap news) (T : Top p loose mean mg mb h₀)
    (ho : K.lookup f = some ⟨oc, od, .func (fnOf name qual params body scope dV kV doc pm an cdv ct), osl⟩) (hcd : codeIn K cdv qual = true) (hroom : A.depth < recursionLimit)
    (hbind : BindsTo s (fnOf name qual params body scope dV kV doc pm an cdv ct) args binds) (hkind : (binds.all fun y => scope.names.lookup y.1 == some .local || scope.names.lookup y.1 == some .cell) = true)
    (hnd : ((cellsFrom 0 scope.names []).map (·.1)).Nodup)
    (h : ∀ g L' h₁ tk cells, s.toks ≤ tk → Keeps (news.map (·.1)) s.heap g → s.heap.objs.size = L' → Fr g L' h₁ (bindL (envOfC qual scope L' f cdv).kindOf binds fun _ => none) → News g L' h₁ (cells ++ news) →
      CellsAre (bindC (envOfC qual scope L' f cdv).kindOf binds fun _ => none) (cellsFrom (L' + 1) scope.names []) cells → K.In g → Top p loose mean mg mb g → (∀ p ∈ news, p.1 < L') →
      wpAny (model prog w) (A.deeper (envOfC qual scope L' f cdv)) (execs body (envOfC qual scope L' f cdv))
        (fun fl s' => R (.ok (.ret (match fl with | .ret v => v | _ => .none))) s') (fun _ _ => False)
        { s with heap := h₁, toks := tk })
    (hco : scope.isCoroutine = false) (hgen : scope.isGenerator = false) (hk : scope.kind = .function) : codeAny (model prog w) A (.call (.ref f) args) R s := by
  have st := ground F N
  refine codeAny_call_function hroom ((X₀.keeps F.keep) _ _ ho) rfl hco hgen rfl (codeRec_of (X₀.keeps F.keep) hcd) (hbind _ _ _ _ ?_)
  refine wpAny_up (wpAny_newFunctionEnv_cells hk (kindsX hkind _) fun env' he s' x => ?_)
  intro hup
  subst he
  refine ⟨(T.nolimit.keeps F.keep).keeps x.toInCall.keep, codeAny_func ?_⟩
  obtain ⟨h₁, tk, rfl, _⟩ := x.done
  have hk₁ := x.toInCall.keep
  obtain ⟨cells, NC, Y⟩ := Cl.news (h₀ := s.heap) (Nat.le_refl _) fun n c hm => ⟨x.cell n c (lookup_of_mem_nodup (cellsFrom_names scope.names 0 (s.heap.objs.size + 1) [] [] rfl ▸ hnd) hm), x.above n c hm⟩
  refine wpAny_mono (h _ s.heap.objs.size h₁ tk cells hup (fun b o e n => hideAll_get _ e n) rfl ⟨x.toInCall.ns, fun b o e => hk₁ b o (of_hideAll _ e), Nat.le_of_eq (hideAll_size _ _)⟩ (fun p hp => ?_) Y (X₀.keeps st) (T.keeps st) (fun p hp => Heap.lt_size (N p hp).1)) (fun fl s' hl => hl) fun _ _ y => y.elim
  rcases List.mem_append.mp hp with hp | hp
  · refine ⟨(NC p hp).1, (NC p hp).2.1, ?_⟩
    cases q : (hideAll s.heap (news.map (·.1))).get? p.1 with
    | none => rfl
    | some o => have := of_hideAll _ q; rw [(NC p hp).2.2] at this; cases this
  · exact ⟨hk₁ _ _ (N p hp).1, Nat.ne_of_lt (Heap.lt_size (N p hp).1), hideAll_none _ (List.mem_map_of_mem hp)⟩
end
theorem linesMz1x1 : True := by
  k_with_none
  k_with "mine enter" => ((refine' enter ?k2z391 ?k3z391 ?k4z391 ?k5z391 ?k6z391 ?k7z391 ?k8z391 ?k9z391 ?kBz391 ?_ ?c2z391 ?c3z391 ?c4z391 ?c5z391; (case k2z391 => k_asm); (case k3z391 => k_asm); (case k4z391 => k_asm); (case k5z391 => k_asm); (case k6z391 => k_is); (case k7z391 => k_is); (case k8z391 => ktr_room); (case k9z391 => exact BindsTo.of_eq rfl); (case c5z391 => decide); (case kBz391 => exact locs rfl); (case c2z391 => exact rfl); (case c3z391 => exact rfl); (case c4z391 => exact rfl); k_whole))
  k_with "mine keeps" => (((with_reducible rename Keeps _ _ _ => kK); (have F' := frAfter0 (by k_asm) kK); (have N' := newsAfter0 (by k_asm) kK); clear kK; (try k_sweep)))
  k_with "mine made" => (((with_reducible rename Keeps _ _ _ => kK); rename (Heap.get? _ _ = none) => kn; rename (Heap.get? _ _ = some _) => ks; (have l1 := allNe_of (by k_asm) kn); (have N' := newsIn (by k_asm) kn ks (newsAfter0 (by k_asm) kK)); (have F' := frAfter0 (by k_asm) kK); clear kK kn ks; (try k_sweep)))
  trivial
variable {pg : Program} {lz : List Str} {w : World} {mean : ExcName → Option Value} {mg mb : Str → Option Value}
   {dp un : Nat} {gd : Option (List Code)} {cn : Str} {cs : Scope} {a : Addr} {ccd : Value} {cl : List (Str × Addr)} {outer : List Env} {h₀ : Heap} {L : Addr} {m : Str → Option Value} {s : Shared} {Q E : Value → Shared → Prop}
theorem cells7 {cm : Str → Option Value} {n1 n2 n3 n4 n5 n6 n7 : Str} {c1 c2 c3 c4 c5 c6 c7 : Addr} {cells : List (Addr × Obj)} (x : CellsAre cm [(n1, c1), (n2, c2), (n3, c3), (n4, c4), (n5, c5), (n6, c6), (n7, c7)] cells) :
    ∃ o1 o2 o3 o4 o5 o6 o7, cells = [(c1, o1), (c2, o2), (c3, o3), (c4, o4), (c5, o5), (c6, o6), (c7, o7)] ∧ o1.data = .cell (cm n1) ∧ o2.data = .cell (cm n2) ∧ o3.data = .cell (cm n3) ∧ o4.data = .cell (cm n4) ∧ o5.data = .cell (cm n5) ∧ o6.data = .cell (cm n6) ∧ o7.data = .cell (cm n7) := by
  cases x with | cons d1 x => cases x with | cons d2 x => cases x with | cons d3 x => cases x with | cons d4 x => cases x with | cons d5 x => cases x with | cons d6 x => cases x with | cons d7 x => cases x with | nil => exact ⟨_, _, _, _, _, _, _, rfl, d1, d2, d3, d4, d5, d6, d7⟩
theorem linesMz1x2 : True := by
  k_with "mine enterC" => ((refine' enterCT ?k2z394 ?k3z394 ?k4z394 ?k5z394 ?k6z394 ?k7z394 ?k8z394 ?k9z394 ?kBz394 ?kDz394 ?_ ?c2z394 ?c3z394 ?c4z394; (case k2z394 => k_asm); (case k3z394 => k_asm); (case k4z394 => k_asm); (case k5z394 => k_asm); (case k6z394 => k_is); (case k7z394 => k_is); (case k8z394 => ktr_room); (case k9z394 => exact BindsTo.of_eq rfl); (case kBz394 => exact rfl); (case kDz394 => decide +kernel); (case c2z394 => exact rfl); (case c3z394 => exact rfl); (case c4z394 => exact rfl); k_whole))
  k_with "mine tk" => (((try dsimp only); first | with_reducible assumption | ((repeat (with_reducible refine Tk.add _ ?_)); with_reducible assumption) | exact Tk.succ | fail "mine: tk"))
  k_with "exec Assign" => (((fail_if_success (with_reducible show wpAny _ _ _ (UpQ _ _) _ _)); refine wpUp (by walk_at "mine tk") ?_))
  k_with "exec Assign cons Call" => (((fail_if_success (with_reducible show wpAny _ _ _ (UpQ _ _) _ _)); refine wpUp (by walk_at "mine tk") ?_))
  k_with "execs cons" => (((with_reducible show wpAny _ _ _ _ _ (Shared.mk _ _ _ (HAdd.hAdd _ _) _)); (refine genTk (by walk_at "mine tk") ?_); intro tk' hTk'; (try dsimp only)))
  k_with "UpQ" => ((refine UpQ.mk ?_; intro hTk'; (try dsimp only at hTk'); (try dsimp only)))
  trivial
theorem min_is {M x y z lo : Int} (a : M = x ∨ M = y ∨ M = z) (b : M ≤ x ∧ M ≤ y ∧ M ≤ z) (e : lo = min x (min y z)) : M = lo := by
  subst e
  refine Int.le_antisymm (Int.le_min.mpr ⟨b.1, Int.le_min.mpr b.2⟩) ?_
  rcases a with rfl | rfl | rfl
  · exact Int.min_le_left ..
  · exact Int.le_trans (Int.min_le_right ..) (Int.min_le_left ..)
  · exact Int.le_trans (Int.min_le_right ..) (Int.min_le_right ..)
theorem max_is {M x y z hi : Int} (a : M = x ∨ M = y ∨ M = z) (b : x ≤ M ∧ y ≤ M ∧ z ≤ M) (e : hi = max x (max y z)) : M = hi := by
  subst e
  refine Int.le_antisymm ?_ (Int.max_le.mpr ⟨b.1, Int.max_le.mpr b.2⟩)
  rcases a with rfl | rfl | rfl
  · exact Int.le_max_left ..
  · exact Int.le_trans (Int.le_max_left ..) (Int.le_max_right ..)
  · exact Int.le_trans (Int.le_max_right ..) (Int.le_max_right ..)
theorem bnds {x y z lo hi st : Int} (h : 0 ≤ x ∧ x ≤ 12 ∧ 0 ≤ y ∧ y ≤ 12 ∧ 0 ≤ z ∧ z ≤ 12) (el : lo = min x (min y z)) (eh : hi = max x (max y z)) (es : st = x + y + z - lo - hi) (l : lo ≤ x ∧ lo ≤ y ∧ lo ≤ z) (g : x ≤ hi ∧ y ≤ hi ∧ z ≤ hi)
    (a : lo = x ∨ lo = y ∨ lo = z) (b : hi = x ∨ hi = y ∨ hi = z) : (0 ≤ lo ∧ lo ≤ 12) ∧ (0 ≤ hi ∧ hi ≤ 12) ∧ 0 ≤ st ∧ st ≤ 12 := by
  clear el eh
  subst es
  refine ⟨⟨?_, Int.le_trans l.1 h.2.1⟩, ⟨Int.le_trans h.1 g.1, ?_⟩, ?_, ?_⟩
  · rcases a with rfl | rfl | rfl
    · exact h.1
    · exact h.2.2.1
    · exact h.2.2.2.2.1
  · rcases b with rfl | rfl | rfl
    · exact h.2.1
    · exact h.2.2.2.1
    · exact h.2.2.2.2.2
  · clear a g
    rcases b with rfl | rfl | rfl <;> omega
  · clear b l
    rcases a with rfl | rfl | rfl <;> omega
theorem hsvI {x y z : Int} (h : 0 ≤ x ∧ x ≤ 12 ∧ 0 ≤ y ∧ y ≤ 12 ∧ 0 ≤ z ∧ z ≤ 12) : hsvOk (dF x) (dF y) (dF z) = true := by
  have := hsv_all (x := x.toNat) (y := y.toNat) (z := z.toNat) (by omega) (by omega) (by omega)
  rwa [show ((x.toNat : Nat) : Int) = x by omega, show ((y.toNat : Nat) : Int) = y by omega, show ((z.toNat : Nat) : Int) = z by omega] at this
theorem max2c (a b : Nat) : max (a:Int) (b:Int) = ((max a b : Nat) : Int) := by
  rcases Nat.le_total a b with h | h
  · rw [Nat.max_eq_right h, Int.max_eq_right (Int.ofNat_le.mpr h)]
  · rw [Nat.max_eq_left h, Int.max_eq_left (Int.ofNat_le.mpr h)]
theorem min2c (a b : Nat) : min (a:Int) (b:Int) = ((min a b : Nat) : Int) := by
  rcases Nat.le_total a b with h | h
  · rw [Nat.min_eq_left h, Int.min_eq_left (Int.ofNat_le.mpr h)]
  · rw [Nat.min_eq_right h, Int.min_eq_right (Int.ofNat_le.mpr h)]
theorem max3c (a b c : Nat) : max (a:Int) (max (b:Int) (c:Int)) = ((max a (max b c) : Nat) : Int) := by rw [max2c, max2c]
theorem min3c (a b c : Nat) : min (a:Int) (min (b:Int) (c:Int)) = ((min a (min b c) : Nat) : Int) := by rw [min2c, min2c]
theorem max3lt {a b c n : Nat} (h : a < n) (h2 : b < n) (h3 : c < n) : max a (max b c) < n := by
  rw [Nat.max_lt, Nat.max_lt]; exact ⟨h, h2, h3⟩
theorem nat3 {x y z : Int} (h : 0 ≤ x ∧ x ≤ 12 ∧ 0 ≤ y ∧ y ≤ 12 ∧ 0 ≤ z ∧ z ≤ 12) : ∃ a b c : Nat, x = a ∧ y = b ∧ z = c ∧ a < 13 ∧ b < 13 ∧ c < 13 :=
  ⟨x.toNat, y.toNat, z.toNat, by omega, by omega, by omega, by omega, by omega, by omega⟩
theorem maxI {x y z M : Int} (h : 0 ≤ x ∧ x ≤ 12 ∧ 0 ≤ y ∧ y ≤ 12 ∧ 0 ≤ z ∧ z ≤ 12) (e : M = max x (max y z)) : eqF (max3F (dF x) (dF y) (dF z)) (dF M) = true := by
  obtain ⟨a, b, c, rfl, rfl, rfl, ha, hb, hc⟩ := nat3 h
  rw [max3c] at e; subst e
  rw [max3_eq ha hb hc, eqT' _ (max3lt ha hb hc) _ (max3lt ha hb hc)]
  simp
theorem satI {x y z lo hi : Int} (h : 0 ≤ x ∧ x ≤ 12 ∧ 0 ≤ y ∧ y ≤ 12 ∧ 0 ≤ z ∧ z ≤ 12) (el : lo = min x (min y z)) (eh : hi = max x (max y z)) (hne : lo ≠ hi) : satF (dF x) (dF y) (dF z) = qF (hi - lo).toNat hi.toNat ∧ eqF (satF (dF x) (dF y) (dF z)) (Float64.ofFrac false (hi - lo).toNat hi.toNat) = true := by
  obtain ⟨a, b, c, rfl, rfl, rfl, ha, hb, hc⟩ := nat3 h
  rw [min3c] at el; rw [max3c] at eh; subst el; subst eh
  have hl : min a (min b c) ≤ max a (max b c) := Nat.le_trans (Nat.min_le_left _ _) (Nat.le_max_left _ _)
  have hM := max3lt ha hb hc
  have this := sat_eq ha hb hc
  rw [if_neg (fun q => hne (congrArg _ q.symm))] at this
  rw [this]
  clear this h
  generalize max a (max b c) = M at *
  generalize min a (min b c) = l at *
  have e1 : ((M:Int) - (l:Int)).toNat = M - l := by omega
  have e2 : (M:Int).toNat = M := rfl
  rw [e1, e2]
  exact ⟨rfl, (divT _ (by omega) _ hM (Nat.sub_le _ _) (by omega)).2⟩
theorem satG {x y z : Int} (h : 0 ≤ x ∧ x ≤ 12 ∧ 0 ≤ y ∧ y ≤ 12 ∧ 0 ≤ z ∧ z ≤ 12) (e : max x (max y z) = min x (min y z)) : satF (dF x) (dF y) (dF z) = 0 := by
  obtain ⟨a, b, c, rfl, rfl, rfl, ha, hb, hc⟩ := nat3 h
  rw [max3c, min3c] at e
  have this := sat_eq ha hb hc
  rwa [if_pos (Int.ofNat.inj e)] at this
theorem codes_at {c1 c2 c3 c4 c5 c6 : Tok} : ∀ p : Nat, p < 6 → ∃ ck, [Value.int 4 c1, .int 6 c2, .int 2 c3, .int 3 c4, .int 1 c5, .int 5 c6][p]? = some (.int (codeN p) ck)
  | 0, _ => ⟨_, rfl⟩
  | 1, _ => ⟨_, rfl⟩
  | 2, _ => ⟨_, rfl⟩
  | 3, _ => ⟨_, rfl⟩
  | 4, _ => ⟨_, rfl⟩
  | 5, _ => ⟨_, rfl⟩
theorem marks_at {d1 d2 d3 d4 d5 d6 : Tok} (h : Tk True d1 ∧ Tk True d2 ∧ Tk True d3 ∧ Tk True d4 ∧ Tk True d5 ∧ Tk True d6) : ∀ p : Nat, p < 6 → ∃ dm, [Value.float (mkT 0) d1, .float (mkT 1) d2, .float (mkT 2) d3, .float (mkT 3) d4, .float (mkT 4) d5, .float (mkT 5) d6][p]? = some (.float (mkT p) dm) ∧ Tk True dm
  | 0, _ => ⟨_, rfl, h.1⟩
  | 1, _ => ⟨_, rfl, h.2.1⟩
  | 2, _ => ⟨_, rfl, h.2.2.1⟩
  | 3, _ => ⟨_, rfl, h.2.2.2.1⟩
  | 4, _ => ⟨_, rfl, h.2.2.2.2.1⟩
  | 5, _ => ⟨_, rfl, h.2.2.2.2.2⟩
theorem code_ne : ∀ p : Nat, p < 6 → (codeN p ≠ codeN (nx p) ∧ (codeN p < codeN (nx p) ∨ codeN (nx p) < codeN p) ∧ 0 ≤ codeN p ∧ codeN p ≤ 7 ∧ 0 ≤ codeN (nx p) ∧ codeN (nx p) ≤ 7 ∧ ((p : Int) + 1).fmod 6 = ((nx p : Nat) : Int) ∧ nx p < 6) := by decide
theorem nsAbs {α : Type} {o : α} (h : none = some o) : False := nomatch h
theorem swap7 {a1 a2 a3 a4 a5 a6 a7 t p : Addr × Obj} {r : List (Addr × Obj)} (h : p ∈ a1 :: a2 :: a3 :: a4 :: a5 :: a6 :: a7 :: t :: r) : p ∈ t :: a1 :: a2 :: a3 :: a4 :: a5 :: a6 :: a7 :: r := by
  simp only [List.mem_cons] at h ⊢
  rcases h with h | h | h | h | h | h | h | h | h <;> simp [h]
/-- a corner of the wheel, as an entry of the ring -/
noncomputable def RingAt (w : World) (h₀ h : Heap) (led : List (Addr × Obj)) (p : Nat) (r d : Addr) : Prop := ∃ o e1 e2 e3 e4 t, (h.get? r = some ((entL p).tup d e1 e2 e3 e4) ∧ h₀.get? r = none ∧ r ∉ led.map (·.1)) ∧ (h.get? d = some o ∧ h₀.get? d = none ∧ d ∉ led.map (·.1)) ∧ (d == sysModules) = false ∧ o.IsDictOf (PySem.intKind PG w) [(codeN p, .int 1 t)]
section
theorem linesMz1x3 : True := by
  k_with "call ref" => (refine ofMark ?_)
  k_with "execs cons" => (((with_reducible show wpAny _ _ (execs (Stmt.If _ _ _ _ :: _) _) _ _ _); refine ofMark ?_))
  trivial
set_option maxHeartbeats 8000000 in
theorem one_ok {x y z lo hi st : Int} {la lc lr lm : Addr} {t1 t2 t3 c1 c2 c3 c4 c5 c6 d1 d2 d3 d4 d5 d6 : Tok} {r1 r2 r3 r4 r5 r6 : Addr} {qs : List Addr} {oA : Obj} {cA : Addr} {ocA : Obj} {oB : Obj} {cB : Addr} {ocB : Obj}
   (F : Fr h₀ L s.heap m) (X : (Mine.hd.heap_1 w.params).In h₀) (T : Top pg lz mean mg mb h₀)
   (N : News h₀ L s.heap [(la, lstO [.int x t1, .int y t2, .int z t3]), (lc, lstO [.int 4 c1, .int 6 c2, .int 2 c3, .int 3 c4, .int 1 c5, .int 5 c6]), (lr, LCg.lst [.ref r1, .ref r2, .ref r3, .ref r4, .ref r5, .ref r6]), (lm, LCg.lst [.float (mkT 0) d1, .float (mkT 1) d2, .float (mkT 2) d3, .float (mkT 3) d4, .float (mkT 4) d5, .float (mkT 5) d6]), (51, oA), (cA, ocA), (58, oB), (cB, ocB)])
   (C1 : CodeHd h₀ 55 51) (C2 : CodeHd h₀ 62 58) (hd : dp + 30 < recursionLimit) (hun : un + 1000 < cLine) (hTk : Tk True s.toks) (hdm : Shut (Tk True d1 ∧ Tk True d2 ∧ Tk True d3 ∧ Tk True d4 ∧ Tk True d5 ∧ Tk True d6))
   (hA : TabS 51 55 4 qA oA cA ocA) (hB : TabS 58 70 4 qB oB cB ocB) (nAB : Shut (cA ≠ 58 ∧ cB ≠ 51)) (h58 : Off2 la ∧ Off2 lc ∧ Off2 lr ∧ Off2 lm)
   (hx : 0 ≤ x ∧ x ≤ 12 ∧ 0 ≤ y ∧ y ≤ 12 ∧ 0 ≤ z ∧ z ≤ 12) (elo : lo = min x (min y z)) (ehi : hi = max x (max y z)) (est : st = x + y + z - lo - hi)
   (ring : Shut (∀ p : Nat, p < 6 → ∃ r, [Value.ref r1, .ref r2, .ref r3, .ref r4, .ref r5, .ref r6][p]? = some (.ref r) ∧ RingAt w h₀ s.heap [(la, lstO [.int x t1, .int y t2, .int z t3]), (lc, lstO [.int 4 c1, .int 6 c2, .int 2 c3, .int 3 c4, .int 1 c5, .int 5 c6]), (lr, LCg.lst [.ref r1, .ref r2, .ref r3, .ref r4, .ref r5, .ref r6]), (lm, LCg.lst [.float (mkT 0) d1, .float (mkT 1) d2, .float (mkT 2) d3, .float (mkT 3) d4, .float (mkT 4) d5, .float (mkT 5) d6]), (51, oA), (cA, ocA), (58, oB), (cB, ocB)] p r (qs.getD p 0))) (hqs : Shut (∀ p : Nat, p < 6 → qs.getD p 0 ≠ qs.getD (nx p) 0))
   (plan : Shut (Plan x y z lo hi st (hueF (dF x) (dF y) (dF z))))
   (hret : ∀ (h' : Heap) (tk' : Nat) (oA' : Obj) (cA' : Addr) (ocA' : Obj) (oB' : Obj) (cB' : Addr) (ocB' : Obj), Tk True tk' → Keeps [51, 58] s.heap h' → News h₀ L h' [(51, oA'), (cA', ocA'), (58, oB'), (cB', ocB')] → TabS 51 55 4 qA oA' cA' ocA' → TabS 58 70 4 qB oB' cB' ocB' → Shut (cA' ≠ 58 ∧ cB' ≠ 51) → (∀ b o, s.heap.get? b = some o → b ∉ ([(la, lstO [.int x t1, .int y t2, .int z t3]), (lc, lstO [.int 4 c1, .int 6 c2, .int 2 c3, .int 3 c4, .int 1 c5, .int 5 c6]), (lr, LCg.lst [.ref r1, .ref r2, .ref r3, .ref r4, .ref r5, .ref r6]), (lm, LCg.lst [.float (mkT 0) d1, .float (mkT 1) d2, .float (mkT 2) d3, .float (mkT 3) d4, .float (mkT 4) d5, .float (mkT 5) d6]), (51, oA), (cA, ocA), (58, oB), (cB, ocB)] : List (Addr × Obj)).map (·.1) → cA' ≠ b ∧ cB' ≠ b) → Q (.bool true) { s with heap := h', toks := tk' }) :
   wpAny (model PySem.Challenge.rw_ph0126_01.row.prog w) (ktrTop dp un gd cn cs L a ccd cl outer) (call (.ref 117) [.ref la, .ref lc, .ref lr, .ref lm]) Q E s := by
  revert X; k_fill; intro X
  refine wpUp hTk ?_
  refine wpAny_call ?_
  k_dflt (walk_at "mine enterC")
  intro g' L' h' tk' cells' hup K' hL' F' N' Y' X' T' l'
  obtain ⟨o1, o2, o3, o4, o5, o6, o7, rfl, e1, e2, e3, e4, e5, e6, e7⟩ := cells7 Y'
  clear Y'
  replace e1 : o1.data = .cell none := e1
  replace e2 : o2.data = .cell none := e2
  replace e3 : o3.data = .cell none := e3
  replace e4 : o4.data = .cell none := e4
  replace e5 : o5.data = .cell none := e5
  replace e6 : o6.data = .cell none := e6
  replace e7 : o7.data = .cell (some (.ref la)) := e7
  have hTk1 : Tk True tk' := fun z => Nat.lt_of_lt_of_le (hTk z) hup
  simp only [List.cons_append, List.nil_append] at N'
  have C1' := C1.keeps (staysOf F N K')
  have C2' := C2.keeps (staysOf F N K')
  k_lt l'
  (try dsimp only); (try k_fold)
  k_steps
  refine mark ?_
  rename News _ _ _ _ => N1; rename Fr _ _ _ _ => F1
  rename (_ ≤ x ∧ _ ≤ y ∧ _ ≤ z) => bLo; rename (x ≤ _ ∧ y ≤ _ ∧ z ≤ _) => bHi
  have eLo := (min_is (by assumption) bLo elo).symm
  have eHi := (max_is (by assumption) bHi ehi).symm
  subst eLo eHi
  refine wpHp ?_
  refine toldL_ok (Z := True) (n := 0) (d := 0) (t4 := 0) F1 X' T' (news1 N1 (by k_mem)) (by ktr_room) (by walk_at "mine tk") hx (hsvI hx) ?_
  intro tv h2 tk2 u1 u2 u3 hTu K2 n2 g2 up2
  have ltv : @LT.lt Nat _ (L' + 1 + 1 + 1 + 1 + 1 + 1 + 1) tv := up2.new n2 g2 (N1 _ (.head _)).1
  have F2 := frAfter0 F1 K2
  have N2 := newsIn F1 n2 g2 (newsAfter0 N1 K2)
  clear up2 n2 g2 K2 F1 N1
  dsimp only
  k_steps
  refine mark ?_
  rename News _ _ _ _ => N1; rename Fr _ _ _ _ => F1
  have N2 := fun p hp => N1 p (swap7 hp)
  clear N1
  have fin : ∀ (h3 : Heap) (tk3 : Nat) (m3 : Str → Option Value) (oA' : Obj) (cA' : Addr) (ocA' : Obj) (oB' : Obj) (cB' : Addr) (ocB' : Obj), Fr g' L' h3 m3 → News g' L' h3 [(la, lstO [.int x t1, .int y t2, .int z t3]), (lc, lstO [.int 4 c1, .int 6 c2, .int 2 c3, .int 3 c4, .int 1 c5, .int 5 c6]), (lr, LCg.lst [.ref r1, .ref r2, .ref r3, .ref r4, .ref r5, .ref r6]), (lm, LCg.lst [.float (mkT 0) d1, .float (mkT 1) d2, .float (mkT 2) d3, .float (mkT 3) d4, .float (mkT 4) d5, .float (mkT 5) d6]), (51, oA'), (cA', ocA'), (58, oB'), (cB', ocB')] →
      TabS 51 55 4 qA oA' cA' ocA' → TabS 58 70 4 qB oB' cB' ocB' → Shut (cA' ≠ 58 ∧ cB' ≠ 51) → (cA ≠ 51 → cA' = cA ∧ ocA' = ocA) → (cB ≠ 58 → cB' = cB ∧ ocB' = ocB) → UpQ True Q (.bool true) { s with heap := h3, toks := tk3 } := by
    intro h3 tk3 m3 oA' cA' ocA' oB' cB' ocB' F3 N3 hA' hB' nAB' gA gB
    refine UpQ.mk fun hT9 => hret _ _ oA' cA' ocA' oB' cB' ocB' hT9 (keepsOf K' N F3 N3 ?ks) (fun p hp => newsUp F N K' N3 (.tail _ (.tail _ (.tail _ (.tail _ hp))))) hA' hB' nAB' (fun b o e hb => ⟨fun q => nsAbs (o := o) ((N3 _ (.tail _ (.tail _ (.tail _ (.tail _ (.tail _ (.head _))))))).2.2.symm.trans (show g'.get? cA' = some o by rw [q]; exact K' b o e hb)), fun q => nsAbs (o := o) ((N3 _ (.tail _ (.tail _ (.tail _ (.tail _ (.tail _ (.tail _ (.tail _ (.head _))))))))).2.2.symm.trans (show g'.get? cB' = some o by rw [q]; exact K' b o e hb))⟩)
    intro p hp
    simp only [List.mem_cons, List.not_mem_nil, or_false] at hp
    rcases hp with rfl | rfl | rfl | rfl | rfl | rfl | rfl | rfl
    · exact .inl (.head _)
    · exact .inl (.tail _ (.head _))
    · exact .inl (.tail _ (.tail _ (.head _)))
    · exact .inl (.tail _ (.tail _ (.tail _ (.head _))))
    · exact .inr (by simp)
    · by_cases z : cA = 51
      · exact .inr (by simp [z])
      · obtain ⟨z1, z2⟩ := gA z; subst z1 z2; exact .inl (.tail _ (.tail _ (.tail _ (.tail _ (.tail _ (.head _))))))
    · exact .inr (by simp)
    · by_cases z : cB = 58
      · exact .inr (by simp [z])
      · obtain ⟨z1, z2⟩ := gB z; subst z1 z2; exact .inl (.tail _ (.tail _ (.tail _ (.tail _ (.tail _ (.tail _ (.tail _ (.head _))))))))
  obtain ⟨hlo, hhi, hst⟩ := bnds hx elo ehi est (by assumption) (by assumption) (by assumption) (by assumption)
  have hMx := maxI hx ehi
  have hSat := fun hne => (satI hx elo ehi hne).2
  have hGr := fun e : lo = hi => satG hx (ehi.symm.trans (e.symm.trans elo))
  clear elo ehi
  obtain ⟨hu1, hu2, hu3⟩ := hTu
  have hI : oneDef = some (_, _, _) := rfl
  cases plan.out with
  | grey hEq hH =>
    refine segAg hI F1 X' T' C1' C2' hd hun (by walk_at "mine tk") l' ltv N2 (by k_asm) (by k_asm) (by k_asm) e7 hEq hhi hu1 hu2 hu3 ?f1 ?f2 hMx ?ff
    case f1 => rw [hH]; decide +kernel
    case f2 => rw [hGr hEq]; decide +kernel
    case ff => exact fun h3 tk3 m3 F3 N3 => fin h3 tk3 m3 _ _ _ _ _ _ F3 N3 hA hB nAB (fun _ => ⟨rfl, rfl⟩) (fun _ => ⟨rfl, rfl⟩)
  | corner p hp hlt hld hbo hn hm =>
    refine segA hI F1 X' T' C1' C2' hd hun (by walk_at "mine tk") l' ltv N2 (by k_asm) (by k_asm) (by k_asm) e7 (Int.ne_of_lt hlt) ?_
    intro h3 tk3 F3 N3 T3
    clear F1 N2
    refine segB hI F3 X' T' C1' C2' hd hun T3 l' ltv N3 (by k_asm) (by k_asm) (by k_asm) e7 rfl rfl rfl rfl hx hlo hhi ?_
    intro m4 h4 tk4 tl4 F4 N4 T4 a1 a2 a3 a9 a4
    clear F3 N3
    refine segC hI F4 X' T' C1' C2' hd hun T4 l' ltv N4 (by k_asm) (by k_asm) (by k_asm) e7 a1 a2 a3 a9 a4 hx hlo hhi ?_
    intro m5 h5 tk5 tl5 F5 N5 T5 b1 b2 b3 b9 b4 b5
    clear F4 N4
    refine segD hI F5 X' T' C1' C2' hd hun T5 l' ltv N5 (by k_asm) (by k_asm) (by k_asm) e7 b1 b2 b3 b9 b4 b5 ?_
    intro m6 h6 tk6 tp6 F6 N6 T6 c1' c2' c3' c9' c4' c5' c6'
    clear F5 N5
    have epl : ((markN (mkT 0) (mkT 1) (mkT 2) (mkT 3) (mkT 4) (mkT 5) (hueF (dF x) (dF y) (dF z)) : Nat) : Int) - 1 = ((p : Nat) : Int) := by
      have : markN (mkT 0) (mkT 1) (mkT 2) (mkT 3) (mkT 4) (mkT 5) (hueF (dF x) (dF y) (dF z)) = p + 1 := hn
      rw [this]; omega
    rw [epl] at c6'
    obtain ⟨ck, hck⟩ := codes_at (c1 := c1) (c2 := c2) (c3 := c3) (c4 := c4) (c5 := c5) (c6 := c6) p hp
    obtain ⟨dm, hmk, hdm'⟩ := marks_at hdm.out p hp
    refine segD2 hI F6 X' T' C1' C2' hd hun T6 l' ltv N6 (by k_asm) (by k_asm) (by k_asm) e7 c1' c2' c3' c9' c4' c5' c6' (hld.trans hbo.symm) (by omega) (by omega) (by omega) (by rw [hld]; exact hck) hmk hu1 hu2 hu3 hdm' hm (hSat (Int.ne_of_lt hlt)) hMx ?_
    exact fun h3 tk3 m3 F3 N3 => fin h3 tk3 m3 _ _ _ _ _ _ F3 N3 hA hB nAB (fun _ => ⟨rfl, rfl⟩) (fun _ => ⟨rfl, rfl⟩)
  | sector p P Q md lo' up' wd wq hp hlt hPQ hlb hn hs he hw hg hm7 hmd hmn hmm hhu hlu hp1 hp4 =>
    refine segA hI F1 X' T' C1' C2' hd hun (by walk_at "mine tk") l' ltv N2 (by k_asm) (by k_asm) (by k_asm) e7 (Int.ne_of_lt hlt) ?_
    intro h3 tk3 F3 N3 T3
    clear F1 N2
    refine segB hI F3 X' T' C1' C2' hd hun T3 l' ltv N3 (by k_asm) (by k_asm) (by k_asm) e7 rfl rfl rfl rfl hx hlo hhi ?_
    intro m4 h4 tk4 tl4 F4 N4 T4 a1 a2 a3 a9 a4
    clear F3 N3
    refine segC hI F4 X' T' C1' C2' hd hun T4 l' ltv N4 (by k_asm) (by k_asm) (by k_asm) e7 a1 a2 a3 a9 a4 hx hlo hhi ?_
    intro m5 h5 tk5 tl5 F5 N5 T5 b1 b2 b3 b9 b4 b5
    clear F4 N4
    refine segD hI F5 X' T' C1' C2' hd hun T5 l' ltv N5 (by k_asm) (by k_asm) (by k_asm) e7 b1 b2 b3 b9 b4 b5 ?_
    intro m6 h6 tk6 tp6 F6 N6 T6 c1' c2' c3' c9' c4' c5' c6'
    clear F5 N5
    have epl : ((markN (mkT 0) (mkT 1) (mkT 2) (mkT 3) (mkT 4) (mkT 5) (hueF (dF x) (dF y) (dF z)) : Nat) : Int) - 1 = ((p : Nat) : Int) := by
      have : markN (mkT 0) (mkT 1) (mkT 2) (mkT 3) (mkT 4) (mkT 5) (hueF (dF x) (dF y) (dF z)) = p + 1 := hn
      rw [this]; omega
    rw [epl] at c6'
    obtain ⟨hcn, hord, hc0, hc1, hc2, hc3, hnx, hnp⟩ := code_ne p hp
    obtain ⟨ck0, hck0⟩ := codes_at (c1 := c1) (c2 := c2) (c3 := c3) (c4 := c4) (c5 := c5) (c6 := c6) p hp
    obtain ⟨ck1, hck1⟩ := codes_at (c1 := c1) (c2 := c2) (c3 := c3) (c4 := c4) (c5 := c5) (c6 := c6) (nx p) hnp
    have hneL : leadI x y z hi ≠ bothI x y z lo := by
      rcases hlb with ⟨q1, q2, _, _⟩ | ⟨q1, q2, _, _⟩
      · rw [q1, q2]; exact hcn
      · rw [q1, q2]; exact hcn.symm
    refine segD1 (lo := 0) (hi := 0) (tlo := 0) (thi := 0) hI F6 X' T' C1' C2' hd hun T6 l' ltv N6 c1' c2' c3' c9' c4' c5' c6' hneL ?_
    intro h7 tk7 F7 N7 T7
    clear F6 N6
    refine segE hI F7 X' T' C1' C2' hd hun T7 l' ltv N7 (by k_asm) (by k_asm) (by k_asm) e7 e1 e2 e3 c1' c2' c3' c4' c5' c6' (by clear hlb hord; omega) (by rw [hnx]; clear hlb hord; omega) hlo hhi (by clear hlb hord; omega) ⟨hc0, hc1, hc2, hc3⟩ hck0 (by rw [hnx]; exact hck1) (hlb.imp (fun h => ⟨h.1, h.2.1⟩) (fun h => ⟨h.1, h.2.1⟩)) hord ?_
    intro m8 h8 tk8 oU8 oLo8 na n1 n2 tl8 tu8 lw up F8 N8 T8 lna dU8 dLo8 hq nm8 rg8 pl8
    clear F7 N7
    have hlu2 : lw = (P : Int) ∧ up = (Q : Int) := by
      rcases hlb with ⟨q1, q2, q3, q4⟩ | ⟨q1, q2, q3, q4⟩ <;> rcases hq with ⟨w1, w2, w3⟩ | ⟨w1, w2, w3⟩
      · exact ⟨by omega, by omega⟩
      · exact absurd (q1.symm.trans w1) hcn
      · exact absurd (w1.symm.trans q1) hcn
      · exact ⟨by omega, by omega⟩
    clear hq
    obtain ⟨rfl, rfl⟩ := hlu2
    have hP : 1 ≤ (P : Int) ∧ (P : Int) ≤ 12 := by clear hlb hord; omega
    have hQ : 1 ≤ (Q : Int) ∧ (Q : Int) ≤ 12 := by clear hlb hord; omega
    refine segF (lo := 0) (hi := 0) (tlo := 0) (thi := 0) hI F8 X' T' C1' C2' hd hun T8 l' ltv N8 e1 dU8 dLo8 hP hQ lna ?_
    intro h9 tk9 oM9 tm F9 N9 T9 dM9
    clear F8 N8
    obtain ⟨rl, hrl, oL, z11, z12, z13, z14, tL, ⟨zl1, zl2, zl3⟩, ⟨zd1, zd2, zd3⟩, lol, yl⟩ := ring.out p hp
    obtain ⟨rr, hrr, oR, z21, z22, z23, z24, tR, ⟨zr1, zr2, zr3⟩, ⟨ze1, ze2, ze3⟩, lor, yr⟩ := ring.out (nx p) hnp
    have hbs : h₀.objs.size ≤ L' := by
      have b1 := F.above
      have b2 := F.ns.lt
      rw [← hL']
      exact Nat.le_of_lt (Nat.lt_of_le_of_lt b1 b2)
    refine segG (lo := 0) (hi := 0) (tlo := 0) (thi := 0) hI F9 X' T' C1' C2' hd hun T9 l' ltv (staysOf F N K') hbs (Shut.mk X) (Shut.mk T) h58 hA hB nAB N9 dM9 dU8 dLo8 (by k_asm) rg8 pl8 nm8 (by clear hlb hord; omega) (by rw [hnx]; clear hlb hord; omega) hP hQ lna hrl (by rw [hnx]; exact hrr)
      (l := entL p) (u := entU (nx p)) ⟨K' _ _ zl1 zl3, zl2⟩ ⟨K' _ _ zr1 zr3, zr2⟩ ⟨K' _ _ zd1 zd3, zd2⟩ ⟨K' _ _ ze1 ze3, ze2⟩ (Shut.mk hcn) (Shut.mk (hqs.out p hp)) lol lor yl (.inl ⟨rfl, _, rfl⟩) yr (.inl ⟨rfl, _, rfl⟩)
      (Shut.mk (show (0 : Int) ≤ 1 ∧ (1 : Int) ≤ 12 ∧ (0 : Int) ≤ 0 ∧ (0 : Int) ≤ 12 ∧ (0 : Int) ≤ 0 ∧ (0 : Int) ≤ 12 ∧ (0 : Int) ≤ 1 ∧ (1 : Int) ≤ 12 by decide)) hs he hw ?_
    intro m10 h10 tk10 mv dm dl du dl' du' om ol ou ol' ou' kl ku a1' a2' a3' a4' a5' a6' oA' cA' ocA' oB' cB' ocB' F10 N10 T10 O1 O2 O3 O4 Cdl Cdu lo3 lo4 lo5 q1 q2 q3 q4 q5 hA' hB' nAB' OcA OcB gA gB fnd und ovr nms
    clear F9 N9
    have l6 : @LT.lt Nat _ la L' ∧ @LT.lt Nat _ lc L' ∧ @LT.lt Nat _ lr L' ∧ @LT.lt Nat _ lm L' ∧ @LT.lt Nat _ 51 L' ∧ @LT.lt Nat _ 58 L' := ⟨l'.1, l'.2.1, l'.2.2.1, l'.2.2.2.1, l'.2.2.2.2.1, l'.2.2.2.2.2.2.1⟩
    have hone : eqF (satF (dF md.r) (dF md.g) (dF md.b)) 4607182418800017408 = true := by
      rw [(satI (lo := 0) (hi := md.n) hmd hmm.2.symm hmm.1.symm (by clear hlb hord; omega)).1, show (md.n - 0).toNat = md.n.toNat by clear hlb hord; omega]
      exact oneT _ (by clear hlb hord; omega) (by clear hlb hord; omega)
    refine segH (tp := 0) hI F10 X' T' C1' C2' hd hun T10 l6 ltv N10 O1 O2 O3 O4 OcA OcB dM9 dU8 dLo8 (by k_asm) (by k_asm) (by k_asm) e7 nms fnd hP hQ hg hx hlo hhi lna lo3 q1 (Shut.mk hcn) hm7.1 hm7.2.1 hm7.2.2.1 hm7.2.2.2.1 hm7.2.2.2.2.1 hm7.2.2.2.2.2.1 hm7.2.2.2.2.2.2 hmd (by clear hlb hord; omega) (hsvI hmd) hu1 hhu hone (maxI hmd hmm.1.symm) ?_
    intro h11 tk11 oU11 oLo11 tl11 tu11 F11 N11 T11 dU11 dLo11
    clear F10 N10
    refine segI (lo := 0) (hi := 0) (tlo := 0) (thi := 0) hI F11 X' T' C1' C2' hd hun T11 l6 ltv h58 hA' hB' nAB' N11 O1 O2 O3 O4 dU11 dLo11 nms und ovr ⟨hlu.1, hlu.2.1⟩ hlu.2.2 lna Cdl Cdu (Shut.mk hcn) lo4 lo5 q2 q3 q4 q5 ⟨hp1.1, hp1.2.1⟩ hp1.2.2.1 hp1.2.2.2 ⟨hp4.1, hp4.2.1⟩ hp4.2.2.1 hp4.2.2.2 ?_
    intro h3 tk3 m3 oA2 cA2 ocA2 oB2 cB2 ocB2 F3 N3 hA2 hB2 nAB2 gA2 gB2
    refine fin h3 tk3 m3 _ _ _ _ _ _ F3 N3 hA2 hB2 nAB2 (fun z => ?_) (fun z => ?_)
    · obtain ⟨v1, v2⟩ := gA z
      obtain ⟨v3, v4⟩ := gA2 (by rw [v1]; exact z)
      exact ⟨v3.trans v1, v4.trans v2⟩
    · obtain ⟨v1, v2⟩ := gB z
      obtain ⟨v3, v4⟩ := gB2 (by rw [v1]; exact z)
      exact ⟨v3.trans v1, v4.trans v2⟩
end
end
/-! text Mt1 -/
section
theorem linesMt1x1 : True := by
  k_with_none
  k_with "mine enter" => ((refine' enter ?k2z402 ?k3z402 ?k4z402 ?k5z402 ?k6z402 ?k7z402 ?k8z402 ?k9z402 ?kBz402 ?_ ?c2z402 ?c3z402 ?c4z402 ?c5z402; (case k2z402 => k_asm); (case k3z402 => k_asm); (case k4z402 => k_asm); (case k5z402 => k_asm); (case k6z402 => k_is); (case k7z402 => k_is); (case k8z402 => ktr_room); (case k9z402 => exact BindsTo.of_eq rfl); (case c5z402 => decide); (case kBz402 => exact locs rfl); (case c2z402 => exact rfl); (case c3z402 => exact rfl); (case c4z402 => exact rfl); k_whole))
  k_with "mine keeps" => (((with_reducible rename Keeps _ _ _ => kK); (have F' := frAfter0 (by k_asm) kK); (have N' := newsAfter0 (by k_asm) kK); clear kK; (try k_sweep)))
  k_with "mine made" => (((with_reducible rename Keeps _ _ _ => kK); rename (Heap.get? _ _ = none) => kn; rename (Heap.get? _ _ = some _) => ks; (have l1 := allNe_of (by k_asm) kn); (have N' := newsIn (by k_asm) kn ks (newsAfter0 (by k_asm) kK)); (have F' := frAfter0 (by k_asm) kK); clear kK kn ks; (try k_sweep)))
  trivial
variable {pg : Program} {lz : List Str} {w : World} {mean : ExcName → Option Value} {mg mb : Str → Option Value}
   {dp un : Nat} {gd : Option (List Code)} {cn : Str} {cs : Scope} {a : Addr} {ccd : Value} {cl : List (Str × Addr)} {outer : List Env} {h₀ : Heap} {L : Addr} {m : Str → Option Value} {s : Shared} {Q E : Value → Shared → Prop}
theorem pairs_any {p p' : Program} {w w' : World} : ∀ {es : List DictEntry} {kvs : List (Int × Value)}, Pairs (PySem.intKind p w) es kvs → Pairs (PySem.intKind p' w') es kvs
  | _, _, .nil => .nil
  | _, _, .cons a b c => .cons a b (pairs_any c)
theorem isDict_any {p p' : Program} {w w' : World} {o : Obj} {kvs : List (Int × Value)} (h : o.IsDictOf (PySem.intKind p w) kvs) : o.IsDictOf (PySem.intKind p' w') kvs := by
  obtain ⟨es, ep, a, b, c, d, e⟩ := h
  exact ⟨es, ep, a, b, c, pairs_any d, e⟩
open PySem.SeqAt in
theorem eqD_at {w : World} {A : Around} {s : Shared} {d d' : Addr} {o o' : Obj} {k v : Int} {t u : Tok} (hne : d ≠ d') (g : s.heap.get? d = some o) (g' : s.heap.get? d' = some o') (lo : (d == sysModules) = false) (lo' : (d' == sysModules) = false)
    (ho : o.IsDictOf (PySem.intKind PG w) [(k, .int v t)]) (ho' : o'.IsDictOf (PySem.intKind PG w) [(k, .int v u)]) (hu : A.units < cLine) : EqAt A s (.ref d) (.ref d') true := by
  refine EqAt.of_refs hne fun prog w' E Q hq => ?_
  have Ta : TabAt (PySem.intKind prog w') PyData.int s.heap d [(.int k, .int v)] := ⟨lo, _, Heap.dictOf_iff.mpr ⟨o, g, isDict_any ho⟩, flat1 ..⟩
  have Tb : TabAt (PySem.intKind prog w') PyData.int s.heap d' [(.int k, .int v)] := ⟨lo', _, Heap.dictOf_iff.mpr ⟨o', g', isDict_any ho'⟩, flat1 ..⟩
  have hit := KeqRows.hit (Db := [(PyData.int k, PyData.int v)]) (k := .int k) (v := .int v) (u := .int v) (by simp [PySem.Spec.lookup, sameInt]) KeqRows.nil
  have e : (PyData.eqv (.int v) (.int v) && true) = true := by simp [PyData.eqv]
  rw [e] at hit
  exact keq_tabs sameInt Ta Tb rfl hu hit hq
section
variable {prog : Program} {w : World} {A : Around} {E : Value → Shared → Prop} {s : Shared} {env : Env} {h₀ : Heap} {x : Str} {body : List Stmt} {Q : Flow → Shared → Prop}
theorem listLoop {ax : Addr} {lo : Obj} {vs : List Value} {n : Nat} {m₀ : Str → Option Value} {news : List (Addr × Obj)} (J : Addr → (Str → Option Value) → List (Addr × Obj) → Prop)
    (hh : A.handled = none) (F : Fr h₀ env.locals s.heap m₀) (N : News h₀ env.locals s.heap news) (hm : (ax, lo) ∈ news) (hc : lo.cls = .type "list") (hd : lo.data = .seq vs.toArray n)
    (hJ : ∀ I : Addr, (∀ p ∈ news, p.1 < I) → J I m₀ news) (hmem : ∀ I m n, J I m n → (ax, lo) ∈ n)
    (turn : ∀ I v m₁ news₁, v ∈ vs → J I m₁ news₁ → ∀ (it : Obj) h tk, it.cls = .type "list_iterator" → Fr h₀ env.locals h (fun y => if y = x then some v else m₁ y) → News h₀ env.locals h ((I, it) :: news₁) →
      wpAny (model prog w) A (execs body env) (UnrPost h₀ env.locals { s with heap := h, toks := tk } I it (J I) Q) E { s with heap := h, toks := tk })
    (done : ∀ I m₁ news₁ h tk, J I m₁ news₁ → Fr h₀ env.locals h m₁ → News h₀ env.locals h news₁ → Q .next { s with heap := h, toks := tk }) :
    wpAny (model prog w) A (pyIter (.ref ax)) (fun it s₂ => LoopAtV prog w A h₀ env x body Q E it s₂) E s := by
  refine iter_listUnr hh F N hm hc hd fun I hI => ?_
  have all : ∀ (r : List Value) (m₁ : Str → Option Value) (news₁ : List (Addr × Obj)), (∀ v ∈ r, v ∈ vs) → J I m₁ news₁ → ListRest prog w A E h₀ env x body Q s I (ax, lo) r m₁ news₁ := by
    intro r
    induction r with
    | nil => exact fun m₁ news₁ _ j h tk F N => done I m₁ news₁ h tk j F N
    | cons v r ih =>
      intro m₁ news₁ hs j it h tk hc F N
      refine wpAny_mono (turn I v m₁ news₁ (hs v (.head _)) j it h tk hc F N) (fun f s₂ p => ?_) fun _ _ e => e
      have up : UnrEnd h₀ env.locals { s with heap := h, toks := tk } I it (J I) s₂ → UnrEnd h₀ env.locals { s with heap := h, toks := tk } I it (fun m' n' => (ax, lo) ∈ n' ∧ ListRest prog w A E h₀ env x body Q s I (ax, lo) r m' n') s₂ := by
        rintro ⟨h', tk', m', news', e, F', N', ho, j'⟩
        exact ⟨h', tk', m', news', e, F', N', ho, hmem _ _ _ j', ih _ _ (fun v hv => hs v (.tail _ hv)) j'⟩
      cases f with
      | ret v => exact p
      | brk => exact p
      | next => exact up p
      | cont => exact up p
  exact all _ _ _ (fun _ h => h) (hJ I hI)
end
section
theorem linesMt1x2 : True := by
  k_with "binaryOp Div int int" => (((with_reducible show wpAny _ _ (binaryOp _ (Value.int _ _) (Value.int 16 _)) _ _ _); refine div16 rfl (by (try simp); omega) ?_; (try dsimp only)))
  k_with "exec Assign" => (((fail_if_success (with_reducible show wpAny _ _ _ (UpQ _ _) _ _)); refine wpUp (P := True) (by walk_at "mine tk") ?_))
  k_with "execs cons" => (((with_reducible show wpAny _ _ _ _ _ (Shared.mk _ _ _ (HAdd.hAdd _ _) _)); (refine genTk (P := True) (by walk_at "mine tk") ?_); intro tk' hTk'; (try dsimp only)))
  k_with "UpQ" => ((refine UpQ.mk ?_; intro hTk'; (try dsimp only at hTk'); (try dsimp only)))
  k_with "mine tk" => (((try dsimp only); first | with_reducible assumption | ((repeat (with_reducible refine Tk.add _ ?_)); with_reducible assumption) | exact Tk.succ | fail "mine: tk"))
  k_with "call ref" => ((k_dflt (refine' hsv_okT (Z := True) ?k1z410 ?k2z410 ?k3z410 ?k4z410 ?q0z410 ?q1z410 ?q2z410 ?q3z410 ?k5z410 ?_; (case q0z410 => walk_at "mine tk"); (case k1z410 => k_asm); (case k2z410 => k_asm); (case k3z410 => k_asm); (case k4z410 => ktr_room); (case k5z410 => assumption); (case q1z410 => walk_at "mine tk"); (case q2z410 => walk_at "mine tk"); (case q3z410 => walk_at "mine tk"); intro v' h' tk' u1' u2' u3' hTk' K' n' g'; walk_at "mine made")))
  trivial
theorem told_any {x y z n : Int} {la d : Addr} {t1 t2 t3 t4 : Tok}
   (F : Fr h₀ L s.heap m) (X : (Mine.hd.heap_1 w.params).In h₀) (T : Top pg lz mean mg mb h₀)
   (N : News h₀ L s.heap [(la, tupO [.int x t1, .int y t2, .int z t3, .int n t4, .ref d])])
   (hd : dp + 2 < recursionLimit) (hx : 0 ≤ x ∧ x ≤ 12 ∧ 0 ≤ y ∧ y ≤ 12 ∧ 0 ≤ z ∧ z ≤ 12) (hok : hsvOk (dF x) (dF y) (dF z) = true)
   (hret : ∀ (v : Addr) (h' : Heap) (tk' : Nat) (u1 u2 u3 : Tok), Tk True u1 ∧ Tk True u2 ∧ Tk True u3 → Keeps [] s.heap h' → s.heap.get? v = none → h'.get? v = some (tupO [.float (hueF (dF x) (dF y) (dF z)) u1, .float (satF (dF x) (dF y) (dF z)) u2, .float (max3F (dF x) (dF y) (dF z)) u3]) → Q (.ref v) { s with heap := h', toks := tk' }) :
   wpAny (model PySem.Challenge.rw_ph0126_01.row.prog w) (ktrTop dp un gd cn cs L a ccd cl outer) (call (.ref 98) [.ref la]) Q E s := by
  revert X; k_fill; intro X
  refine wpAny_call ?_
  k_dflt (walk_at "mine enter")
  intro g' L' h' K' hL' F' N' X' T' l'
  (try dsimp only); (try k_fold)
  k_steps
  rename News _ _ _ _ => N'; rename Fr _ _ _ _ => F'
  exact hret _ _ _ _ _ _ (by with_reducible assumption) (keepsOf K' N F' N' (by simp)) (freshOf K' N' (.head _) (by k_all)) (N' _ (.head _)).1
end
theorem linesMt1x3 : True := by
  k_with_none
  k_with "mine enter" => ((refine' enter ?k2z402 ?k3z402 ?k4z402 ?k5z402 ?k6z402 ?k7z402 ?k8z402 ?k9z402 ?kBz402 ?_ ?c2z402 ?c3z402 ?c4z402 ?c5z402; (case k2z402 => k_asm); (case k3z402 => k_asm); (case k4z402 => k_asm); (case k5z402 => k_asm); (case k6z402 => k_is); (case k7z402 => k_is); (case k8z402 => ktr_room); (case k9z402 => exact BindsTo.of_eq rfl); (case c5z402 => decide); (case kBz402 => exact locs rfl); (case c2z402 => exact rfl); (case c3z402 => exact rfl); (case c4z402 => exact rfl); k_whole))
  k_with "mine keeps" => (((with_reducible rename Keeps _ _ _ => kK); (have F' := frAfter0 (by k_asm) kK); (have N' := newsAfter0 (by k_asm) kK); clear kK; (try k_sweep)))
  k_with "mine made" => (((with_reducible rename Keeps _ _ _ => kK); rename (Heap.get? _ _ = none) => kn; rename (Heap.get? _ _ = some _) => ks; (have l1 := allNe_of (by k_asm) kn); (have N' := newsIn (by k_asm) kn ks (newsAfter0 (by k_asm) kK)); (have F' := frAfter0 (by k_asm) kK); clear kK kn ks; (try k_sweep)))
  trivial
theorem mark_eq : ∀ i : Nat, i < 6 → hueF (dF (entL i).r) (dF (entL i).g) (dF (entL i).b) = mkT i := by
  intro i hi
  have h13 : cR i < 13 ∧ cG i < 13 ∧ cB i < 13 := by
    have : i = 0 ∨ i = 1 ∨ i = 2 ∨ i = 3 ∨ i = 4 ∨ i = 5 := by omega
    rcases this with rfl | rfl | rfl | rfl | rfl | rfl <;> decide
  exact (hue_eq (x := cR i) (y := cG i) (z := cB i) h13.1 h13.2.1 h13.2.2).trans (mkT_ok i hi)
theorem told_mark {i : Nat} (hi : i < 6) {la d : Addr} {t1 t2 t3 t4 : Tok}
   (F : Fr h₀ L s.heap m) (X : (Mine.hd.heap_1 w.params).In h₀) (T : Top pg lz mean mg mb h₀)
   (N : News h₀ L s.heap [(la, (entL i).tup d t1 t2 t3 t4)]) (hd : dp + 2 < recursionLimit)
   (hret : ∀ (v : Addr) (h' : Heap) (tk' : Nat) (u1 u2 u3 : Tok) (S V : UInt64), Tk True u1 → Keeps [] s.heap h' → s.heap.get? v = none → h'.get? v = some (tupO [.float (mkT i) u1, .float S u2, .float V u3]) → Q (.ref v) { s with heap := h', toks := tk' }) :
   wpAny (model PySem.Challenge.rw_ph0126_01.row.prog w) (ktrTop dp un gd cn cs L a ccd cl outer) (call (.ref 98) [.ref la]) Q E s := by
  have hb : 0 ≤ (entL i).r ∧ (entL i).r ≤ 12 ∧ 0 ≤ (entL i).g ∧ (entL i).g ≤ 12 ∧ 0 ≤ (entL i).b ∧ (entL i).b ≤ 12 := by
    have : i = 0 ∨ i = 1 ∨ i = 2 ∨ i = 3 ∨ i = 4 ∨ i = 5 := by omega
    rcases this with rfl | rfl | rfl | rfl | rfl | rfl <;> decide
  refine told_any F X T N hd hb (hsvI hb) ?_
  intro v h' tk' u1 u2 u3 hT k n g
  rw [mark_eq i hi] at g
  exact hret v h' tk' u1 u2 u3 _ _ hT.1 k n g
end
/-! text Ml1 -/
section
theorem linesMl1x1 : True := by
  k_with_none
  k_with "mine enter" => ((refine' enter ?k2z411 ?k3z411 ?k4z411 ?k5z411 ?k6z411 ?k7z411 ?k8z411 ?k9z411 ?kBz411 ?_ ?c2z411 ?c3z411 ?c4z411 ?c5z411; (case k2z411 => k_asm); (case k3z411 => k_asm); (case k4z411 => k_asm); (case k5z411 => k_asm); (case k6z411 => k_is); (case k7z411 => k_is); (case k8z411 => ktr_room); (case k9z411 => exact BindsTo.of_eq rfl); (case c5z411 => decide); (case kBz411 => exact locs rfl); (case c2z411 => exact rfl); (case c3z411 => exact rfl); (case c4z411 => exact rfl); k_whole))
  k_with "mine keeps" => (((with_reducible rename Keeps _ _ _ => kK); (have F' := frAfter0 (by k_asm) kK); (have N' := newsAfter0 (by k_asm) kK); clear kK; (try k_sweep)))
  k_with "mine made" => (((with_reducible rename Keeps _ _ _ => kK); rename (Heap.get? _ _ = none) => kn; rename (Heap.get? _ _ = some _) => ks; (have l1 := allNe_of (by k_asm) kn); (have N' := newsIn (by k_asm) kn ks (newsAfter0 (by k_asm) kK)); (have F' := frAfter0 (by k_asm) kK); clear kK kn ks; (try k_sweep)))
  trivial
variable {pg : Program} {lz : List Str} {w : World} {mean : ExcName → Option Value} {mg mb : Str → Option Value}
   {dp un : Nat} {gd : Option (List Code)} {cn : Str} {cs : Scope} {a : Addr} {ccd : Value} {cl : List (Str × Addr)} {outer : List Env} {h₀ : Heap} {L : Addr} {m : Str → Option Value} {s : Shared} {Q E : Value → Shared → Prop}
noncomputable def lawDef : Option (Arguments × List Stmt × Scope) := defOf' (PySem.Challenge.pw_ph0126_01.main.body[20]?)
section
variable {h : Heap} {I C D d : Addr} {oI oC oD : Obj} {news : List (Addr × Obj)}
theorem l1I (l : AllNe d ((I, oI) :: (C, oC) :: (D, oD) :: news)) : d ≠ I := Ne.symm (l.get (.head _))
theorem l1C (l : AllNe d ((I, oI) :: (C, oC) :: (D, oD) :: news)) : d ≠ C := Ne.symm (l.get (.tail _ (.head _)))
theorem l1D (l : AllNe d ((I, oI) :: (C, oC) :: (D, oD) :: news)) : d ≠ D := Ne.symm (l.get (.tail _ (.tail _ (.head _))))
theorem o2N {D : Addr} {a1 a2 a3 a4 a5 a6 a7 a8 a9 a10 a11 a12 a13 : Addr × Obj} {o p : Obj} (h : LCg.Off1 D [a1, a2, a3, a4, a5, a6, a7, a8, a9, a10, a11, a12, a13, (58, o), (51, p)]) : Off2 D := by
  simp only [LCg.Off1, and_true] at h
  exact Off2.mk (Ne.symm h.2.2.2.2.2.2.2.2.2.2.2.2.2.2) (Ne.symm h.2.2.2.2.2.2.2.2.2.2.2.2.2.1)
theorem o2M {D : Addr} {a0 a1 a2 a3 a4 a5 a6 a7 a8 a9 a10 a11 a12 a13 : Addr × Obj} {o p : Obj} (h : LCg.Off1 D [a0, a1, a2, a3, a4, a5, a6, a7, a8, a9, a10, a11, a12, a13, (58, o), (51, p)]) : Off2 D := by
  simp only [LCg.Off1, and_true] at h
  exact Off2.mk (Ne.symm h.2.2.2.2.2.2.2.2.2.2.2.2.2.2.2) (Ne.symm h.2.2.2.2.2.2.2.2.2.2.2.2.2.2.1)
theorem swapR {p q : Addr × Obj} {a b c : Addr × Obj} (N : News h₀ L h (p :: q :: a :: b :: c :: news)) : News h₀ L h (a :: b :: c :: p :: q :: news) := fun x hx => by
  simp only [List.mem_cons] at hx
  rcases hx with rfl | rfl | rfl | rfl | rfl | hx
  · exact N _ (.tail _ (.tail _ (.head _)))
  · exact N _ (.tail _ (.tail _ (.tail _ (.head _))))
  · exact N _ (.tail _ (.tail _ (.tail _ (.tail _ (.head _)))))
  · exact N _ (.head _)
  · exact N _ (.tail _ (.head _))
  · exact N _ (.tail _ (.tail _ (.tail _ (.tail _ (.tail _ hx)))))
end
section
theorem linesMl1x2 : True := by
  k_with "loadName" => ((k_here; k_dflt (refine' ldnE ?k1z414 ?kLz414 ?k2z414 ?_; (case k1z414 => k_asm); (case kLz414 => exact rfl); (case k2z414 => first | exact rfl | assumption | fail "no"); k_whole)))
  k_with "eval Name" => ((k_here; k_dflt (refine' ldE ?k1z415 ?kLz415 ?k2z415 ?_; (case k1z415 => k_asm); (case kLz415 => exact rfl); (case k2z415 => first | exact rfl | assumption | fail "no"); k_whole)))
  k_with "call ref" => (refine ofMark ?_)
  k_with "CompSrc" => (refine ofMark ?_)
  k_with "CompRest" => (refine ofMark ?_)
  k_with "CompSrcU" => (refine ofMark ?_)
  trivial
set_option maxHeartbeats 8000000 in
theorem segL1 {params : Arguments} {body : List Stmt} {scope : Scope} {Qf : Flow → Shared → Prop} {Ef : Value → Shared → Prop} {fa lc sc : Addr} {cd : Value} {c1 c2 c3 c4 c5 c6 : Tok}
   (hI : lawDef = some (params, body, scope)) (F : Fr h₀ L s.heap m) (X : (Mine.hd.heap_1 w.params).In h₀) (T : Top pg lz mean mg mb h₀)
   (C1 : CodeHd h₀ 55 51) (C2 : CodeHd h₀ 62 58) (hd : dp + 60 < recursionLimit) (hun : un + 2000 < cLine)
   (N : News h₀ L s.heap [(lc, lstO [.int 4 c1, .int 6 c2, .int 2 c3, .int 3 c4, .int 1 c5, .int 5 c6]), (58, tabObj #[]), (51, tabObj #[])]) (hc : m "codes" = some (.ref lc)) (hs : m "script" = some (.ref sc))
   (hF : ∀ (m' : Str → Option Value) (h' : Heap) (tk' : Nat) (lr : Addr) (v0 d0 v1 d1 v2 d2 v3 d3 v4 d4 v5 d5 : Addr) (o0 o1 o2 o3 o4 o5 : Obj) (e01 e02 e03 e04 e05 e11 e12 e13 e14 e15 e21 e22 e23 e24 e25 e31 e32 e33 e34 e35 e41 e42 e43 e44 e45 e51 e52 e53 e54 e55 : Tok), Fr h₀ L h' m' → News h₀ L h' [(lr, LCg.lst [.ref v0, .ref v1, .ref v2, .ref v3, .ref v4, .ref v5]), (v5, (entL 5).tup d5 e51 e52 e53 e54), (d5, o5), (v4, (entL 4).tup d4 e41 e42 e43 e44), (d4, o4), (v3, (entL 3).tup d3 e31 e32 e33 e34), (d3, o3), (v2, (entL 2).tup d2 e21 e22 e23 e24), (d2, o2), (v1, (entL 1).tup d1 e11 e12 e13 e14), (d1, o1), (v0, (entL 0).tup d0 e01 e02 e03 e04), (d0, o0), (lc, lstO [.int 4 c1, .int 6 c2, .int 2 c3, .int 3 c4, .int 1 c5, .int 5 c6]), (58, tabObj #[]), (51, tabObj #[])] → Off2 lr ∧ Off2 v0 ∧ Off2 d0 ∧ Off2 v1 ∧ Off2 d1 ∧ Off2 v2 ∧ Off2 d2 ∧ Off2 v3 ∧ Off2 d3 ∧ Off2 v4 ∧ Off2 d4 ∧ Off2 v5 ∧ Off2 d5 → ((d0 == sysModules) = false) → (o0.IsDictOf (PySem.intKind PG w) [(codeN 0, .int 1 e05)]) → ((d1 == sysModules) = false) → (o1.IsDictOf (PySem.intKind PG w) [(codeN 1, .int 1 e15)]) → ((d2 == sysModules) = false) → (o2.IsDictOf (PySem.intKind PG w) [(codeN 2, .int 1 e25)]) → ((d3 == sysModules) = false) → (o3.IsDictOf (PySem.intKind PG w) [(codeN 3, .int 1 e35)]) → ((d4 == sysModules) = false) → (o4.IsDictOf (PySem.intKind PG w) [(codeN 4, .int 1 e45)]) → ((d5 == sysModules) = false) → (o5.IsDictOf (PySem.intKind PG w) [(codeN 5, .int 1 e55)]) → d0 ≠ d1 → d1 ≠ d2 → d2 ≠ d3 → d3 ≠ d4 → d4 ≠ d5 → d5 ≠ d0 → m' "codes" = some (.ref lc) → m' "script" = some (.ref sc) → m' "ring" = some (.ref lr) →
      wpAny (model PySem.Challenge.rw_ph0126_01.row.prog w) (ktrTop dp un gd (Str.ofString "law") scope L fa cd [] outer) (execs (body.drop 2) (envOf (Str.ofString "law") scope L fa cd)) Qf Ef { s with heap := h', toks := tk' })
   : wpAny (model PySem.Challenge.rw_ph0126_01.row.prog w) (ktrTop dp un gd (Str.ofString "law") scope L fa cd [] outer) (execs (body.drop 1) (envOf (Str.ofString "law") scope L fa cd)) Qf Ef s := by
  revert X; k_fill; intro X
  conv at hI => lhs; whnf
  injection hI with hI
  injection hI with e1 e2
  injection e2 with e2 e3
  subst e1 e2 e3
  dsimp only [List.drop]
  (try k_fold)
  k_steps
  refine mark ?_
  refine LCg.CompSrc.ledger rfl F N (by k_mem) (Nat.le_of_ble_eq_true rfl) ?_
  intro g
  refine LCg.CompRest.succ (k := 5) ?_
  intro vv I oI C oC D mm hh tkk Ee hv hC hx F1 N1 off nee
  have evv := (Option.some.inj hv).symm
  subst evv
  clear hv
  (try dsimp only)
  k_steps
  refine mark ?_
  refine corner_ok F1 X T (by ktr_room) ?_
  intro v0 d0 o0 h2 tk2 e01 e02 e03 e04 e05 K2 n1 n2 ne g1 g2 lo0 D0
  have l2 := allNe_of N1 n2
  have l1 := allNe_of N1 n1
  have N2 : News h₀ L h2 ((v0, (entL 0).tup d0 e01 e02 e03 e04) :: _) := newsIn F1 n1 g1 (newsIn F1 n2 g2 (newsAfter0 N1 K2))
  have F2 := frAfter0 F1 K2
  have ov0 : Off2 v0 := Off2.mk (Ne.symm (l1.get (by k_mem))) (Ne.symm (l1.get (by k_mem)))
  have od0 : Off2 d0 := Off2.mk (Ne.symm (l2.get (by k_mem))) (Ne.symm (l2.get (by k_mem)))
  clear K2 n1 n2 g1 g2 F1 N1 ne
  refine ⟨_, _, [(v0, (entL 0).tup d0 e01 e02 e03 e04), (d0, o0), (lc, lstO [.int 4 c1, .int 6 c2, .int 2 c3, .int 3 c4, .int 1 c5, .int 5 c6]), (58, tabObj #[]), (51, tabObj #[])], rfl, F2, swapR N2, ⟨⟨l1I l1, l1C l1, l1D l1⟩, ⟨l1I l2, l1C l2, l1D l2⟩, off⟩, .inr ⟨_, by k_mem, rfl, _, rfl⟩, ?_⟩
  clear l1 l2 F2 N2 off
  refine LCg.CompRest.succ (k := 4) ?_
  intro vv I oI C oC D mm hh tkk Ee hv hC hx F1 N1 off nee
  have evv := (Option.some.inj hv).symm
  subst evv
  clear hv
  (try dsimp only)
  k_steps
  refine mark ?_
  refine corner_ok F1 X T (by ktr_room) ?_
  intro v1 d1 o1 h2 tk2 e11 e12 e13 e14 e15 K2 n1 n2 ne g1 g2 lo1 D1
  have l2 := allNe_of N1 n2
  have l1 := allNe_of N1 n1
  have N2 : News h₀ L h2 ((v1, (entL 1).tup d1 e11 e12 e13 e14) :: _) := newsIn F1 n1 g1 (newsIn F1 n2 g2 (newsAfter0 N1 K2))
  have F2 := frAfter0 F1 K2
  have hn0 : d0 ≠ d1 := l2.get (by k_mem)
  have ov1 : Off2 v1 := Off2.mk (Ne.symm (l1.get (by k_mem))) (Ne.symm (l1.get (by k_mem)))
  have od1 : Off2 d1 := Off2.mk (Ne.symm (l2.get (by k_mem))) (Ne.symm (l2.get (by k_mem)))
  clear K2 n1 n2 g1 g2 F1 N1 ne
  refine ⟨_, _, [(v1, (entL 1).tup d1 e11 e12 e13 e14), (d1, o1), (v0, (entL 0).tup d0 e01 e02 e03 e04), (d0, o0), (lc, lstO [.int 4 c1, .int 6 c2, .int 2 c3, .int 3 c4, .int 1 c5, .int 5 c6]), (58, tabObj #[]), (51, tabObj #[])], rfl, F2, swapR N2, ⟨⟨l1I l1, l1C l1, l1D l1⟩, ⟨l1I l2, l1C l2, l1D l2⟩, off⟩, .inr ⟨_, by k_mem, rfl, _, rfl⟩, ?_⟩
  clear l1 l2 F2 N2 off
  refine LCg.CompRest.succ (k := 3) ?_
  intro vv I oI C oC D mm hh tkk Ee hv hC hx F1 N1 off nee
  have evv := (Option.some.inj hv).symm
  subst evv
  clear hv
  (try dsimp only)
  k_steps
  refine mark ?_
  refine corner_ok F1 X T (by ktr_room) ?_
  intro v2 d2 o2 h2 tk2 e21 e22 e23 e24 e25 K2 n1 n2 ne g1 g2 lo2 D2
  have l2 := allNe_of N1 n2
  have l1 := allNe_of N1 n1
  have N2 : News h₀ L h2 ((v2, (entL 2).tup d2 e21 e22 e23 e24) :: _) := newsIn F1 n1 g1 (newsIn F1 n2 g2 (newsAfter0 N1 K2))
  have F2 := frAfter0 F1 K2
  have hn1 : d1 ≠ d2 := l2.get (by k_mem)
  have ov2 : Off2 v2 := Off2.mk (Ne.symm (l1.get (by k_mem))) (Ne.symm (l1.get (by k_mem)))
  have od2 : Off2 d2 := Off2.mk (Ne.symm (l2.get (by k_mem))) (Ne.symm (l2.get (by k_mem)))
  clear K2 n1 n2 g1 g2 F1 N1 ne
  refine ⟨_, _, [(v2, (entL 2).tup d2 e21 e22 e23 e24), (d2, o2), (v1, (entL 1).tup d1 e11 e12 e13 e14), (d1, o1), (v0, (entL 0).tup d0 e01 e02 e03 e04), (d0, o0), (lc, lstO [.int 4 c1, .int 6 c2, .int 2 c3, .int 3 c4, .int 1 c5, .int 5 c6]), (58, tabObj #[]), (51, tabObj #[])], rfl, F2, swapR N2, ⟨⟨l1I l1, l1C l1, l1D l1⟩, ⟨l1I l2, l1C l2, l1D l2⟩, off⟩, .inr ⟨_, by k_mem, rfl, _, rfl⟩, ?_⟩
  clear l1 l2 F2 N2 off
  refine LCg.CompRest.succ (k := 2) ?_
  intro vv I oI C oC D mm hh tkk Ee hv hC hx F1 N1 off nee
  have evv := (Option.some.inj hv).symm
  subst evv
  clear hv
  (try dsimp only)
  k_steps
  refine mark ?_
  refine corner_ok F1 X T (by ktr_room) ?_
  intro v3 d3 o3 h2 tk2 e31 e32 e33 e34 e35 K2 n1 n2 ne g1 g2 lo3 D3
  have l2 := allNe_of N1 n2
  have l1 := allNe_of N1 n1
  have N2 : News h₀ L h2 ((v3, (entL 3).tup d3 e31 e32 e33 e34) :: _) := newsIn F1 n1 g1 (newsIn F1 n2 g2 (newsAfter0 N1 K2))
  have F2 := frAfter0 F1 K2
  have hn2 : d2 ≠ d3 := l2.get (by k_mem)
  have ov3 : Off2 v3 := Off2.mk (Ne.symm (l1.get (by k_mem))) (Ne.symm (l1.get (by k_mem)))
  have od3 : Off2 d3 := Off2.mk (Ne.symm (l2.get (by k_mem))) (Ne.symm (l2.get (by k_mem)))
  clear K2 n1 n2 g1 g2 F1 N1 ne
  refine ⟨_, _, [(v3, (entL 3).tup d3 e31 e32 e33 e34), (d3, o3), (v2, (entL 2).tup d2 e21 e22 e23 e24), (d2, o2), (v1, (entL 1).tup d1 e11 e12 e13 e14), (d1, o1), (v0, (entL 0).tup d0 e01 e02 e03 e04), (d0, o0), (lc, lstO [.int 4 c1, .int 6 c2, .int 2 c3, .int 3 c4, .int 1 c5, .int 5 c6]), (58, tabObj #[]), (51, tabObj #[])], rfl, F2, swapR N2, ⟨⟨l1I l1, l1C l1, l1D l1⟩, ⟨l1I l2, l1C l2, l1D l2⟩, off⟩, .inr ⟨_, by k_mem, rfl, _, rfl⟩, ?_⟩
  clear l1 l2 F2 N2 off
  refine LCg.CompRest.succ (k := 1) ?_
  intro vv I oI C oC D mm hh tkk Ee hv hC hx F1 N1 off nee
  have evv := (Option.some.inj hv).symm
  subst evv
  clear hv
  (try dsimp only)
  k_steps
  refine mark ?_
  refine corner_ok F1 X T (by ktr_room) ?_
  intro v4 d4 o4 h2 tk2 e41 e42 e43 e44 e45 K2 n1 n2 ne g1 g2 lo4 D4
  have l2 := allNe_of N1 n2
  have l1 := allNe_of N1 n1
  have N2 : News h₀ L h2 ((v4, (entL 4).tup d4 e41 e42 e43 e44) :: _) := newsIn F1 n1 g1 (newsIn F1 n2 g2 (newsAfter0 N1 K2))
  have F2 := frAfter0 F1 K2
  have hn3 : d3 ≠ d4 := l2.get (by k_mem)
  have ov4 : Off2 v4 := Off2.mk (Ne.symm (l1.get (by k_mem))) (Ne.symm (l1.get (by k_mem)))
  have od4 : Off2 d4 := Off2.mk (Ne.symm (l2.get (by k_mem))) (Ne.symm (l2.get (by k_mem)))
  clear K2 n1 n2 g1 g2 F1 N1 ne
  refine ⟨_, _, [(v4, (entL 4).tup d4 e41 e42 e43 e44), (d4, o4), (v3, (entL 3).tup d3 e31 e32 e33 e34), (d3, o3), (v2, (entL 2).tup d2 e21 e22 e23 e24), (d2, o2), (v1, (entL 1).tup d1 e11 e12 e13 e14), (d1, o1), (v0, (entL 0).tup d0 e01 e02 e03 e04), (d0, o0), (lc, lstO [.int 4 c1, .int 6 c2, .int 2 c3, .int 3 c4, .int 1 c5, .int 5 c6]), (58, tabObj #[]), (51, tabObj #[])], rfl, F2, swapR N2, ⟨⟨l1I l1, l1C l1, l1D l1⟩, ⟨l1I l2, l1C l2, l1D l2⟩, off⟩, .inr ⟨_, by k_mem, rfl, _, rfl⟩, ?_⟩
  clear l1 l2 F2 N2 off
  refine LCg.CompRest.succ (k := 0) ?_
  intro vv I oI C oC D mm hh tkk Ee hv hC hx F1 N1 off nee
  have evv := (Option.some.inj hv).symm
  subst evv
  clear hv
  (try dsimp only)
  k_steps
  refine mark ?_
  refine corner_ok F1 X T (by ktr_room) ?_
  intro v5 d5 o5 h2 tk2 e51 e52 e53 e54 e55 K2 n1 n2 ne g1 g2 lo5 D5
  have l2 := allNe_of N1 n2
  have l1 := allNe_of N1 n1
  have N2 : News h₀ L h2 ((v5, (entL 5).tup d5 e51 e52 e53 e54) :: _) := newsIn F1 n1 g1 (newsIn F1 n2 g2 (newsAfter0 N1 K2))
  have F2 := frAfter0 F1 K2
  have hn4 : d4 ≠ d5 := l2.get (by k_mem)
  have hn5 : d5 ≠ d0 := Ne.symm (l2.get (by k_mem))
  have ov5 : Off2 v5 := Off2.mk (Ne.symm (l1.get (by k_mem))) (Ne.symm (l1.get (by k_mem)))
  have od5 : Off2 d5 := Off2.mk (Ne.symm (l2.get (by k_mem))) (Ne.symm (l2.get (by k_mem)))
  clear K2 n1 n2 g1 g2 F1 N1 ne
  refine ⟨_, _, [(v5, (entL 5).tup d5 e51 e52 e53 e54), (d5, o5), (v4, (entL 4).tup d4 e41 e42 e43 e44), (d4, o4), (v3, (entL 3).tup d3 e31 e32 e33 e34), (d3, o3), (v2, (entL 2).tup d2 e21 e22 e23 e24), (d2, o2), (v1, (entL 1).tup d1 e11 e12 e13 e14), (d1, o1), (v0, (entL 0).tup d0 e01 e02 e03 e04), (d0, o0), (lc, lstO [.int 4 c1, .int 6 c2, .int 2 c3, .int 3 c4, .int 1 c5, .int 5 c6]), (58, tabObj #[]), (51, tabObj #[])], rfl, F2, swapR N2, ⟨⟨l1I l1, l1C l1, l1D l1⟩, ⟨l1I l2, l1C l2, l1D l2⟩, off⟩, .inr ⟨_, by k_mem, rfl, _, rfl⟩, ?_⟩
  clear l1 l2 F2 N2 off
  refine LCg.CompRest.zero ?_
  unfold LCg.FinA
  intro lr h3 tk3 F3 N3 of9
  exact hF _ _ _ lr v0 d0 v1 d1 v2 d2 v3 d3 v4 d4 v5 d5 o0 o1 o2 o3 o4 o5 e01 e02 e03 e04 e05 e11 e12 e13 e14 e15 e21 e22 e23 e24 e25 e31 e32 e33 e34 e35 e41 e42 e43 e44 e45 e51 e52 e53 e54 e55 F3 N3 ⟨o2N of9, ov0, od0, ov1, od1, ov2, od2, ov3, od3, ov4, od4, ov5, od5⟩ lo0 D0 lo1 D1 lo2 D2 lo3 D3 lo4 D4 lo5 D5 hn0 hn1 hn2 hn3 hn4 hn5 hc hs rfl
end
end
/-! text Ml2 -/
section
theorem linesMl2x1 : True := by
  k_with_none
  k_with "mine enter" => ((refine' enter ?k2z420 ?k3z420 ?k4z420 ?k5z420 ?k6z420 ?k7z420 ?k8z420 ?k9z420 ?kBz420 ?_ ?c2z420 ?c3z420 ?c4z420 ?c5z420; (case k2z420 => k_asm); (case k3z420 => k_asm); (case k4z420 => k_asm); (case k5z420 => k_asm); (case k6z420 => k_is); (case k7z420 => k_is); (case k8z420 => ktr_room); (case k9z420 => exact BindsTo.of_eq rfl); (case c5z420 => decide); (case kBz420 => exact locs rfl); (case c2z420 => exact rfl); (case c3z420 => exact rfl); (case c4z420 => exact rfl); k_whole))
  k_with "mine keeps" => (((with_reducible rename Keeps _ _ _ => kK); (have F' := frAfter0 (by k_asm) kK); (have N' := newsAfter0 (by k_asm) kK); clear kK; (try k_sweep)))
  k_with "mine made" => (((with_reducible rename Keeps _ _ _ => kK); rename (Heap.get? _ _ = none) => kn; rename (Heap.get? _ _ = some _) => ks; (have l1 := allNe_of (by k_asm) kn); (have N' := newsIn (by k_asm) kn ks (newsAfter0 (by k_asm) kK)); (have F' := frAfter0 (by k_asm) kK); clear kK kn ks; (try k_sweep)))
  trivial
variable {pg : Program} {lz : List Str} {w : World} {mean : ExcName → Option Value} {mg mb : Str → Option Value}
   {dp un : Nat} {gd : Option (List Code)} {cn : Str} {cs : Scope} {a : Addr} {ccd : Value} {cl : List (Str × Addr)} {outer : List Env} {h₀ : Heap} {L : Addr} {m : Str → Option Value} {s : Shared} {Q E : Value → Shared → Prop}
section
theorem linesMl2x2 : True := by
  k_with "loadName" => ((k_here; k_dflt (refine' ldnE ?k1z423 ?kLz423 ?k2z423 ?_; (case k1z423 => k_asm); (case kLz423 => exact rfl); (case k2z423 => first | exact rfl | assumption | fail "no"); k_whole)))
  k_with "eval Name" => ((k_here; k_dflt (refine' ldE ?k1z424 ?kLz424 ?k2z424 ?_; (case k1z424 => k_asm); (case kLz424 => exact rfl); (case k2z424 => first | exact rfl | assumption | fail "no"); k_whole)))
  k_with "call ref" => (refine ofMark ?_)
  k_with "CompSrc" => (refine ofMark ?_)
  k_with "CompRest" => (refine ofMark ?_)
  k_with "CompSrcU" => (refine ofMark ?_)
  k_with "CompEnd" => (refine ofMark ?_)
  trivial
set_option maxHeartbeats 8000000 in
theorem segL2 {params : Arguments} {body : List Stmt} {scope : Scope} {Qf : Flow → Shared → Prop} {Ef : Value → Shared → Prop} {fa lc sc : Addr} {cd : Value} {c1 c2 c3 c4 c5 c6 : Tok} {lr : Addr} {v0 d0 v1 d1 v2 d2 v3 d3 v4 d4 v5 d5 : Addr} {o0 o1 o2 o3 o4 o5 : Obj} {e01 e02 e03 e04 e05 e11 e12 e13 e14 e15 e21 e22 e23 e24 e25 e31 e32 e33 e34 e35 e41 e42 e43 e44 e45 e51 e52 e53 e54 e55 : Tok}
   (hI : lawDef = some (params, body, scope)) (F : Fr h₀ L s.heap m) (X : (Mine.hd.heap_1 w.params).In h₀) (T : Top pg lz mean mg mb h₀)
   (C1 : CodeHd h₀ 55 51) (C2 : CodeHd h₀ 62 58) (hd : dp + 60 < recursionLimit) (hun : un + 2000 < cLine)
   (N : News h₀ L s.heap [(lr, LCg.lst [.ref v0, .ref v1, .ref v2, .ref v3, .ref v4, .ref v5]), (v5, (entL 5).tup d5 e51 e52 e53 e54), (d5, o5), (v4, (entL 4).tup d4 e41 e42 e43 e44), (d4, o4), (v3, (entL 3).tup d3 e31 e32 e33 e34), (d3, o3), (v2, (entL 2).tup d2 e21 e22 e23 e24), (d2, o2), (v1, (entL 1).tup d1 e11 e12 e13 e14), (d1, o1), (v0, (entL 0).tup d0 e01 e02 e03 e04), (d0, o0), (lc, lstO [.int 4 c1, .int 6 c2, .int 2 c3, .int 3 c4, .int 1 c5, .int 5 c6]), (58, tabObj #[]), (51, tabObj #[])]) (hc : m "codes" = some (.ref lc)) (hs : m "script" = some (.ref sc)) (hr : m "ring" = some (.ref lr))
   (hF : ∀ (m' : Str → Option Value) (h' : Heap) (tk' : Nat) (lm : Addr) (f0 f1 f2 f3 f4 f5 : Tok), Fr h₀ L h' m' → News h₀ L h' [(lm, LCg.lst [.float (mkT 0) f0, .float (mkT 1) f1, .float (mkT 2) f2, .float (mkT 3) f3, .float (mkT 4) f4, .float (mkT 5) f5]), (lr, LCg.lst [.ref v0, .ref v1, .ref v2, .ref v3, .ref v4, .ref v5]), (v5, (entL 5).tup d5 e51 e52 e53 e54), (d5, o5), (v4, (entL 4).tup d4 e41 e42 e43 e44), (d4, o4), (v3, (entL 3).tup d3 e31 e32 e33 e34), (d3, o3), (v2, (entL 2).tup d2 e21 e22 e23 e24), (d2, o2), (v1, (entL 1).tup d1 e11 e12 e13 e14), (d1, o1), (v0, (entL 0).tup d0 e01 e02 e03 e04), (d0, o0), (lc, lstO [.int 4 c1, .int 6 c2, .int 2 c3, .int 3 c4, .int 1 c5, .int 5 c6]), (58, tabObj #[]), (51, tabObj #[])] → Off2 lm → Tk True f0 ∧ Tk True f1 ∧ Tk True f2 ∧ Tk True f3 ∧ Tk True f4 ∧ Tk True f5 → m' "codes" = some (.ref lc) → m' "script" = some (.ref sc) → m' "ring" = some (.ref lr) → m' "marks" = some (.ref lm) →
      wpAny (model PySem.Challenge.rw_ph0126_01.row.prog w) (ktrTop dp un gd (Str.ofString "law") scope L fa cd [] outer) (execs (body.drop 3) (envOf (Str.ofString "law") scope L fa cd)) Qf Ef { s with heap := h', toks := tk' })
   : wpAny (model PySem.Challenge.rw_ph0126_01.row.prog w) (ktrTop dp un gd (Str.ofString "law") scope L fa cd [] outer) (execs (body.drop 2) (envOf (Str.ofString "law") scope L fa cd)) Qf Ef s := by
  revert X; k_fill; intro X
  conv at hI => lhs; whnf
  injection hI with hI
  injection hI with e1 e2
  injection e2 with e2 e3
  subst e1 e2 e3
  dsimp only [List.drop]
  (try k_fold)
  k_steps
  refine mark ?_
  refine LCg.CompSrc.ledger rfl F N (by k_mem) (Nat.le_of_ble_eq_true rfl) ?_
  intro g
  refine LCg.CompRest.succ (k := 5) ?_
  intro vv I oI C oC D mm hh tkk Ee hv hC hx F1 N1 off nee
  have evv := (Option.some.inj hv).symm
  subst evv
  clear hv
  (try dsimp only)
  k_steps
  refine mark ?_
  refine told_mark (i := 0) (by decide) F1 X T (news1 N1 (by k_mem)) (by ktr_room) ?_
  intro tv h2 tk2 f0 w2 w3 SS VV ht0 K2 n1 g1
  have N2 := newsIn F1 n1 g1 (newsAfter0 N1 K2)
  have F2 := frAfter0 F1 K2
  clear K2 n1 g1 F1 N1
  dsimp only
  k_steps
  refine mark ?_
  rename News _ _ _ _ => N1; rename Fr _ _ _ _ => F1
  refine ⟨_, _, [(lr, LCg.lst [.ref v0, .ref v1, .ref v2, .ref v3, .ref v4, .ref v5]), (v5, (entL 5).tup d5 e51 e52 e53 e54), (d5, o5), (v4, (entL 4).tup d4 e41 e42 e43 e44), (d4, o4), (v3, (entL 3).tup d3 e31 e32 e33 e34), (d3, o3), (v2, (entL 2).tup d2 e21 e22 e23 e24), (d2, o2), (v1, (entL 1).tup d1 e11 e12 e13 e14), (d1, o1), (v0, (entL 0).tup d0 e01 e02 e03 e04), (d0, o0), (lc, lstO [.int 4 c1, .int 6 c2, .int 2 c3, .int 3 c4, .int 1 c5, .int 5 c6]), (58, tabObj #[]), (51, tabObj #[])], rfl, F1, (fun p hp => N1 p (.tail _ hp)), off, .inr ⟨_, by k_mem, rfl, _, rfl⟩, ?_⟩
  clear F1 N1 off
  refine LCg.CompRest.succ (k := 4) ?_
  intro vv I oI C oC D mm hh tkk Ee hv hC hx F1 N1 off nee
  have evv := (Option.some.inj hv).symm
  subst evv
  clear hv
  (try dsimp only)
  k_steps
  refine mark ?_
  refine told_mark (i := 1) (by decide) F1 X T (news1 N1 (by k_mem)) (by ktr_room) ?_
  intro tv h2 tk2 f1 w2 w3 SS VV ht1 K2 n1 g1
  have N2 := newsIn F1 n1 g1 (newsAfter0 N1 K2)
  have F2 := frAfter0 F1 K2
  clear K2 n1 g1 F1 N1
  dsimp only
  k_steps
  refine mark ?_
  rename News _ _ _ _ => N1; rename Fr _ _ _ _ => F1
  refine ⟨_, _, [(lr, LCg.lst [.ref v0, .ref v1, .ref v2, .ref v3, .ref v4, .ref v5]), (v5, (entL 5).tup d5 e51 e52 e53 e54), (d5, o5), (v4, (entL 4).tup d4 e41 e42 e43 e44), (d4, o4), (v3, (entL 3).tup d3 e31 e32 e33 e34), (d3, o3), (v2, (entL 2).tup d2 e21 e22 e23 e24), (d2, o2), (v1, (entL 1).tup d1 e11 e12 e13 e14), (d1, o1), (v0, (entL 0).tup d0 e01 e02 e03 e04), (d0, o0), (lc, lstO [.int 4 c1, .int 6 c2, .int 2 c3, .int 3 c4, .int 1 c5, .int 5 c6]), (58, tabObj #[]), (51, tabObj #[])], rfl, F1, (fun p hp => N1 p (.tail _ hp)), off, .inr ⟨_, by k_mem, rfl, _, rfl⟩, ?_⟩
  clear F1 N1 off
  refine LCg.CompRest.succ (k := 3) ?_
  intro vv I oI C oC D mm hh tkk Ee hv hC hx F1 N1 off nee
  have evv := (Option.some.inj hv).symm
  subst evv
  clear hv
  (try dsimp only)
  k_steps
  refine mark ?_
  refine told_mark (i := 2) (by decide) F1 X T (news1 N1 (by k_mem)) (by ktr_room) ?_
  intro tv h2 tk2 f2 w2 w3 SS VV ht2 K2 n1 g1
  have N2 := newsIn F1 n1 g1 (newsAfter0 N1 K2)
  have F2 := frAfter0 F1 K2
  clear K2 n1 g1 F1 N1
  dsimp only
  k_steps
  refine mark ?_
  rename News _ _ _ _ => N1; rename Fr _ _ _ _ => F1
  refine ⟨_, _, [(lr, LCg.lst [.ref v0, .ref v1, .ref v2, .ref v3, .ref v4, .ref v5]), (v5, (entL 5).tup d5 e51 e52 e53 e54), (d5, o5), (v4, (entL 4).tup d4 e41 e42 e43 e44), (d4, o4), (v3, (entL 3).tup d3 e31 e32 e33 e34), (d3, o3), (v2, (entL 2).tup d2 e21 e22 e23 e24), (d2, o2), (v1, (entL 1).tup d1 e11 e12 e13 e14), (d1, o1), (v0, (entL 0).tup d0 e01 e02 e03 e04), (d0, o0), (lc, lstO [.int 4 c1, .int 6 c2, .int 2 c3, .int 3 c4, .int 1 c5, .int 5 c6]), (58, tabObj #[]), (51, tabObj #[])], rfl, F1, (fun p hp => N1 p (.tail _ hp)), off, .inr ⟨_, by k_mem, rfl, _, rfl⟩, ?_⟩
  clear F1 N1 off
  refine LCg.CompRest.succ (k := 2) ?_
  intro vv I oI C oC D mm hh tkk Ee hv hC hx F1 N1 off nee
  have evv := (Option.some.inj hv).symm
  subst evv
  clear hv
  (try dsimp only)
  k_steps
  refine mark ?_
  refine told_mark (i := 3) (by decide) F1 X T (news1 N1 (by k_mem)) (by ktr_room) ?_
  intro tv h2 tk2 f3 w2 w3 SS VV ht3 K2 n1 g1
  have N2 := newsIn F1 n1 g1 (newsAfter0 N1 K2)
  have F2 := frAfter0 F1 K2
  clear K2 n1 g1 F1 N1
  dsimp only
  k_steps
  refine mark ?_
  rename News _ _ _ _ => N1; rename Fr _ _ _ _ => F1
  refine ⟨_, _, [(lr, LCg.lst [.ref v0, .ref v1, .ref v2, .ref v3, .ref v4, .ref v5]), (v5, (entL 5).tup d5 e51 e52 e53 e54), (d5, o5), (v4, (entL 4).tup d4 e41 e42 e43 e44), (d4, o4), (v3, (entL 3).tup d3 e31 e32 e33 e34), (d3, o3), (v2, (entL 2).tup d2 e21 e22 e23 e24), (d2, o2), (v1, (entL 1).tup d1 e11 e12 e13 e14), (d1, o1), (v0, (entL 0).tup d0 e01 e02 e03 e04), (d0, o0), (lc, lstO [.int 4 c1, .int 6 c2, .int 2 c3, .int 3 c4, .int 1 c5, .int 5 c6]), (58, tabObj #[]), (51, tabObj #[])], rfl, F1, (fun p hp => N1 p (.tail _ hp)), off, .inr ⟨_, by k_mem, rfl, _, rfl⟩, ?_⟩
  clear F1 N1 off
  refine LCg.CompRest.succ (k := 1) ?_
  intro vv I oI C oC D mm hh tkk Ee hv hC hx F1 N1 off nee
  have evv := (Option.some.inj hv).symm
  subst evv
  clear hv
  (try dsimp only)
  k_steps
  refine mark ?_
  refine told_mark (i := 4) (by decide) F1 X T (news1 N1 (by k_mem)) (by ktr_room) ?_
  intro tv h2 tk2 f4 w2 w3 SS VV ht4 K2 n1 g1
  have N2 := newsIn F1 n1 g1 (newsAfter0 N1 K2)
  have F2 := frAfter0 F1 K2
  clear K2 n1 g1 F1 N1
  dsimp only
  k_steps
  refine mark ?_
  rename News _ _ _ _ => N1; rename Fr _ _ _ _ => F1
  refine ⟨_, _, [(lr, LCg.lst [.ref v0, .ref v1, .ref v2, .ref v3, .ref v4, .ref v5]), (v5, (entL 5).tup d5 e51 e52 e53 e54), (d5, o5), (v4, (entL 4).tup d4 e41 e42 e43 e44), (d4, o4), (v3, (entL 3).tup d3 e31 e32 e33 e34), (d3, o3), (v2, (entL 2).tup d2 e21 e22 e23 e24), (d2, o2), (v1, (entL 1).tup d1 e11 e12 e13 e14), (d1, o1), (v0, (entL 0).tup d0 e01 e02 e03 e04), (d0, o0), (lc, lstO [.int 4 c1, .int 6 c2, .int 2 c3, .int 3 c4, .int 1 c5, .int 5 c6]), (58, tabObj #[]), (51, tabObj #[])], rfl, F1, (fun p hp => N1 p (.tail _ hp)), off, .inr ⟨_, by k_mem, rfl, _, rfl⟩, ?_⟩
  clear F1 N1 off
  refine LCg.CompRest.succ (k := 0) ?_
  intro vv I oI C oC D mm hh tkk Ee hv hC hx F1 N1 off nee
  have evv := (Option.some.inj hv).symm
  subst evv
  clear hv
  (try dsimp only)
  k_steps
  refine mark ?_
  refine told_mark (i := 5) (by decide) F1 X T (news1 N1 (by k_mem)) (by ktr_room) ?_
  intro tv h2 tk2 f5 w2 w3 SS VV ht5 K2 n1 g1
  have N2 := newsIn F1 n1 g1 (newsAfter0 N1 K2)
  have F2 := frAfter0 F1 K2
  clear K2 n1 g1 F1 N1
  dsimp only
  k_steps
  refine mark ?_
  rename News _ _ _ _ => N1; rename Fr _ _ _ _ => F1
  refine ⟨_, _, [(lr, LCg.lst [.ref v0, .ref v1, .ref v2, .ref v3, .ref v4, .ref v5]), (v5, (entL 5).tup d5 e51 e52 e53 e54), (d5, o5), (v4, (entL 4).tup d4 e41 e42 e43 e44), (d4, o4), (v3, (entL 3).tup d3 e31 e32 e33 e34), (d3, o3), (v2, (entL 2).tup d2 e21 e22 e23 e24), (d2, o2), (v1, (entL 1).tup d1 e11 e12 e13 e14), (d1, o1), (v0, (entL 0).tup d0 e01 e02 e03 e04), (d0, o0), (lc, lstO [.int 4 c1, .int 6 c2, .int 2 c3, .int 3 c4, .int 1 c5, .int 5 c6]), (58, tabObj #[]), (51, tabObj #[])], rfl, F1, (fun p hp => N1 p (.tail _ hp)), off, .inr ⟨_, by k_mem, rfl, _, rfl⟩, ?_⟩
  clear F1 N1 off
  refine LCg.CompRest.zero ?_
  unfold LCg.FinA
  intro lm h3 tk3 F3 N3 of9
  exact hF _ _ _ lm f0 f1 f2 f3 f4 f5 F3 N3 (o2M of9) ⟨ht0, ht1, ht2, ht3, ht4, ht5⟩ hc hs hr rfl
end
end
/-! text Ml3 -/
section
theorem linesMl3x1 : True := by
  k_with_none
  k_with "mine enter" => ((refine' enter ?k2z430 ?k3z430 ?k4z430 ?k5z430 ?k6z430 ?k7z430 ?k8z430 ?k9z430 ?kBz430 ?_ ?c2z430 ?c3z430 ?c4z430 ?c5z430; (case k2z430 => k_asm); (case k3z430 => k_asm); (case k4z430 => k_asm); (case k5z430 => k_asm); (case k6z430 => k_is); (case k7z430 => k_is); (case k8z430 => ktr_room); (case k9z430 => exact BindsTo.of_eq rfl); (case c5z430 => decide); (case kBz430 => exact locs rfl); (case c2z430 => exact rfl); (case c3z430 => exact rfl); (case c4z430 => exact rfl); k_whole))
  k_with "mine keeps" => (((with_reducible rename Keeps _ _ _ => kK); (have F' := frAfter0 (by k_asm) kK); (have N' := newsAfter0 (by k_asm) kK); clear kK; (try k_sweep)))
  k_with "mine made" => (((with_reducible rename Keeps _ _ _ => kK); rename (Heap.get? _ _ = none) => kn; rename (Heap.get? _ _ = some _) => ks; (have l1 := allNe_of (by k_asm) kn); (have N' := newsIn (by k_asm) kn ks (newsAfter0 (by k_asm) kK)); (have F' := frAfter0 (by k_asm) kK); clear kK kn ks; (try k_sweep)))
  trivial
variable {pg : Program} {lz : List Str} {w : World} {mean : ExcName → Option Value} {mg mb : Str → Option Value}
   {dp un : Nat} {gd : Option (List Code)} {cn : Str} {cs : Scope} {a : Addr} {ccd : Value} {cl : List (Str × Addr)} {outer : List Env} {h₀ : Heap} {L : Addr} {m : Str → Option Value} {s : Shared} {Q E : Value → Shared → Prop}
theorem planI {x y z lo hi st : Int} (h : 0 ≤ x ∧ x ≤ 12 ∧ 0 ≤ y ∧ y ≤ 12 ∧ 0 ≤ z ∧ z ≤ 12) (el : lo = min x (min y z)) (eh : hi = max x (max y z)) (es : st = x + y + z - lo - hi) : Plan x y z lo hi st (hueF (dF x) (dF y) (dF z)) := by
  obtain ⟨h1, h2, h3, h4, h5, h6⟩ := h
  obtain ⟨a, rfl⟩ := Int.eq_ofNat_of_zero_le h1
  obtain ⟨b, rfl⟩ := Int.eq_ofNat_of_zero_le h3
  obtain ⟨c, rfl⟩ := Int.eq_ofNat_of_zero_le h5
  have e1 : lo = ((min a (min b c) : Nat) : Int) := by rw [el, min3c]
  have e2 : hi = ((max a (max b c) : Nat) : Int) := by rw [eh, max3c]
  subst e1 e2
  exact plan_of (Nat.lt_succ_of_le (Int.ofNat_le.mp h2)) (Nat.lt_succ_of_le (Int.ofNat_le.mp h4)) (Nat.lt_succ_of_le (Int.ofNat_le.mp h6)) es
theorem f13 (n : Int) : 0 ≤ n.fmod 13 ∧ n.fmod 13 ≤ 12 := by
  rw [Int.fmod_eq_emod_of_nonneg _ (by decide)]; omega
noncomputable def isLst (o : Obj) : Prop := o.cls = .type "list" ∧ ∃ vs n, o.data = .seq vs n
theorem ringAtOf {h : Heap} {led : List (Addr × Obj)} {p : Nat} {r d la lc lr lm cA cB : Addr} {o ola olc olr olm oA ocA oB ocB : Obj} {e1 e2 e3 e4 e5 : Tok} (N : News h₀ L h led) (hr : (r, (entL p).tup d e1 e2 e3 e4) ∈ led) (hd : (d, o) ∈ led)
    (m1 : (la, ola) ∈ led ∧ isLst ola) (m2 : (lc, olc) ∈ led ∧ isLst olc) (m3 : (lr, olr) ∈ led ∧ isLst olr) (m4 : (lm, olm) ∈ led ∧ isLst olm) (ov : Off2 r ∧ Off2 d) (hc : (cA ≠ r ∧ cB ≠ r) ∧ (cA ≠ d ∧ cB ≠ d))
    (lo : (d == sysModules) = false) (D : o.IsDictOf (PySem.intKind PG w) [(codeN p, .int 1 e5)]) : RingAt w h₀ h [(la, ola), (lc, olc), (lr, olr), (lm, olm), (51, oA), (cA, ocA), (58, oB), (cB, ocB)] p r d := by
  have k1 : ∀ {l : Addr} {ol : Obj}, (l, ol) ∈ led ∧ isLst ol → r ≠ l := fun {l ol} hl q => by
    subst q
    have a := (N _ hr).1
    have b := (N _ hl.1).1
    have e : (entL p).tup d e1 e2 e3 e4 = ol := Option.some.inj (a.symm.trans b)
    have t := hl.2.1
    rw [← e] at t
    have t' : Value.type "tuple" = Value.type "list" := t
    injection t' with t'
    exact absurd t' (by decide)
  have k2 : ∀ {l : Addr} {ol : Obj}, (l, ol) ∈ led ∧ isLst ol → d ≠ l := fun {l ol} hl q => by
    subst q
    have a := (N _ hd).1
    have b := (N _ hl.1).1
    have e : o = ol := Option.some.inj (a.symm.trans b)
    obtain ⟨es, ep, _, hdd, _⟩ := D
    obtain ⟨vs, n, hv⟩ := hl.2.2
    have e' : o = ol := e
    rw [← e', hdd] at hv
    cases hv
  refine ⟨o, e1, e2, e3, e4, e5, ⟨(N _ hr).1, (N _ hr).2.2, ?_⟩, ⟨(N _ hd).1, (N _ hd).2.2, ?_⟩, lo, D⟩
  · intro q
    simp only [List.map_cons, List.map_nil, List.mem_cons, List.not_mem_nil, or_false] at q
    rcases q with q | q | q | q | q | q | q | q
    · exact k1 m1 q
    · exact k1 m2 q
    · exact k1 m3 q
    · exact k1 m4 q
    · exact ov.1.1 q
    · exact hc.1.1 q.symm
    · exact ov.1.2 q
    · exact hc.1.2 q.symm
  · intro q
    simp only [List.map_cons, List.map_nil, List.mem_cons, List.not_mem_nil, or_false] at q
    rcases q with q | q | q | q | q | q | q | q
    · exact k2 m1 q
    · exact k2 m2 q
    · exact k2 m3 q
    · exact k2 m4 q
    · exact ov.2.1 q
    · exact hc.2.1 q.symm
    · exact ov.2.2 q
    · exact hc.2.2 q.symm
theorem sub8 {h : Heap} {led : List (Addr × Obj)} {a1 a2 a3 a4 a5 a6 a7 a8 : Addr × Obj} (N : News h₀ L h led) (h1 : a1 ∈ led) (h2 : a2 ∈ led) (h3 : a3 ∈ led) (h4 : a4 ∈ led) (h5 : a5 ∈ led) (h6 : a6 ∈ led) (h7 : a7 ∈ led) (h8 : a8 ∈ led) : News h₀ L h [a1, a2, a3, a4, a5, a6, a7, a8] := fun x hx => by
  simp only [List.mem_cons, List.not_mem_nil, or_false] at hx
  rcases hx with rfl | rfl | rfl | rfl | rfl | rfl | rfl | rfl
  · exact N _ h1
  · exact N _ h2
  · exact N _ h3
  · exact N _ h4
  · exact N _ h5
  · exact N _ h6
  · exact N _ h7
  · exact N _ h8
theorem drop2 {a b c p : Addr × Obj} {r : List (Addr × Obj)} (h : p ∈ a :: r) : p ∈ a :: b :: c :: r := by
  simp only [List.mem_cons] at h ⊢
  rcases h with h | h <;> simp [h]
/-- what holds ahead of each turn of law's loop -/
noncomputable def lawJ (const : List (Addr × Obj)) (ra : List Addr) (lc lr lm : Addr) (I : Addr) (m₁ : Str → Option Value) (news₁ : List (Addr × Obj)) : Prop :=
  ∃ oA cA ocA oB cB ocB, news₁ = const ++ [(51, oA), (cA, ocA), (58, oB), (cB, ocB)] ∧ TabS 51 55 4 qA oA cA ocA ∧ TabS 58 70 4 qB oB cB ocB ∧ Shut (cA ≠ 58 ∧ cB ≠ 51) ∧ (∀ b ∈ ra, cA ≠ b ∧ cB ≠ b) ∧
    m₁ "codes" = some (.ref lc) ∧ m₁ "ring" = some (.ref lr) ∧ m₁ "marks" = some (.ref lm) ∧ (∀ p ∈ news₁, p.1 ≠ I)
noncomputable def lawLB : Option (List Stmt × Scope) := match lawDef with
  | some (_, b, sc) => match b[3]? with
    | some (PySem.Stmt.For _ _ lb _ _) => some (lb, sc)
    | _ => none
  | none => none
section
theorem linesMl3x2 : True := by
  k_with "loadName" => ((k_here; k_dflt (refine' ldnE ?k1z433 ?kLz433 ?k2z433 ?_; (case k1z433 => k_asm); (case kLz433 => exact rfl); (case k2z433 => first | exact rfl | assumption | fail "no"); k_whole)))
  k_with "eval Name" => ((k_here; k_dflt (refine' ldE ?k1z434 ?kLz434 ?k2z434 ?_; (case k1z434 => k_asm); (case kLz434 => exact rfl); (case k2z434 => first | exact rfl | assumption | fail "no"); k_whole)))
  k_with "call ref" => (refine ofMark ?_)
  k_with "CompSrc" => (refine ofMark ?_)
  k_with "CompRest" => (refine ofMark ?_)
  k_with "CompSrcU" => (refine ofMark ?_)
  k_with "UnrEnd" => (refine ofMark ?_)
  k_with "UnrPost" => (refine ofMark ?_)
  k_with "mine tk" => (((try dsimp only); exact Tk.succ))
  trivial
set_option maxHeartbeats 8000000 in
theorem lawLoop {lb : List Stmt} {scope : Scope} {Qf : Flow → Shared → Prop} {Ef : Value → Shared → Prop} {fa ax lc lr lm : Addr} {cd : Value} {c1 c2 c3 c4 c5 c6 : Tok} {v0 d0 v1 d1 v2 d2 v3 d3 v4 d4 v5 d5 : Addr} {o0 o1 o2 o3 o4 o5 : Obj} {e01 e02 e03 e04 e05 e11 e12 e13 e14 e15 e21 e22 e23 e24 e25 e31 e32 e33 e34 e35 e41 e42 e43 e44 e45 e51 e52 e53 e54 e55 : Tok} {f0 f1 f2 f3 f4 f5 : Tok} {ws : List Value} {nz : List Int}
   (hb : lawLB = some (lb, scope)) (F : Fr h₀ L s.heap m) (X : (Mine.hd.heap_1 w.params).In h₀) (T : Top pg lz mean mg mb h₀)
   (C1 : CodeHd h₀ 55 51) (C2 : CodeHd h₀ 62 58) (hd : dp + 60 < recursionLimit) (hun : un + 2000 < cLine)
   (N : News h₀ L s.heap [(ax, PySem.W.listOf ws.toArray 0), (lm, LCg.lst [.float (mkT 0) f0, .float (mkT 1) f1, .float (mkT 2) f2, .float (mkT 3) f3, .float (mkT 4) f4, .float (mkT 5) f5]), (lr, LCg.lst [.ref v0, .ref v1, .ref v2, .ref v3, .ref v4, .ref v5]), (v5, (entL 5).tup d5 e51 e52 e53 e54), (d5, o5), (v4, (entL 4).tup d4 e41 e42 e43 e44), (d4, o4), (v3, (entL 3).tup d3 e31 e32 e33 e34), (d3, o3), (v2, (entL 2).tup d2 e21 e22 e23 e24), (d2, o2), (v1, (entL 1).tup d1 e11 e12 e13 e14), (d1, o1), (v0, (entL 0).tup d0 e01 e02 e03 e04), (d0, o0), (lc, lstO [.int 4 c1, .int 6 c2, .int 2 c3, .int 3 c4, .int 1 c5, .int 5 c6]), (58, tabObj #[]), (51, tabObj #[])]) (iw : IntsAre ws nz) (oax : Off2 ax)
   (hc : m "codes" = some (.ref lc)) (hr : m "ring" = some (.ref lr)) (hm : m "marks" = some (.ref lm))
   (oq : Off2 lc ∧ Off2 lr ∧ Off2 lm) (ov : Off2 v0 ∧ Off2 d0 ∧ Off2 v1 ∧ Off2 d1 ∧ Off2 v2 ∧ Off2 d2 ∧ Off2 v3 ∧ Off2 d3 ∧ Off2 v4 ∧ Off2 d4 ∧ Off2 v5 ∧ Off2 d5) (lo0 : (d0 == sysModules) = false) (D0 : o0.IsDictOf (PySem.intKind PG w) [(codeN 0, .int 1 e05)]) (lo1 : (d1 == sysModules) = false) (D1 : o1.IsDictOf (PySem.intKind PG w) [(codeN 1, .int 1 e15)]) (lo2 : (d2 == sysModules) = false) (D2 : o2.IsDictOf (PySem.intKind PG w) [(codeN 2, .int 1 e25)]) (lo3 : (d3 == sysModules) = false) (D3 : o3.IsDictOf (PySem.intKind PG w) [(codeN 3, .int 1 e35)]) (lo4 : (d4 == sysModules) = false) (D4 : o4.IsDictOf (PySem.intKind PG w) [(codeN 4, .int 1 e45)]) (lo5 : (d5 == sysModules) = false) (D5 : o5.IsDictOf (PySem.intKind PG w) [(codeN 5, .int 1 e55)]) (hn0 : d0 ≠ d1) (hn1 : d1 ≠ d2) (hn2 : d2 ≠ d3) (hn3 : d3 ≠ d4) (hn4 : d4 ≠ d5) (hn5 : d5 ≠ d0) (hft : Tk True f0 ∧ Tk True f1 ∧ Tk True f2 ∧ Tk True f3 ∧ Tk True f4 ∧ Tk True f5)
   (hF : ∀ (m' : Str → Option Value) (h' : Heap) (tk' : Nat) (oA : Obj) (cA : Addr) (ocA : Obj) (oB : Obj) (cB : Addr) (ocB : Obj), Fr h₀ L h' m' → News h₀ L h' [(ax, PySem.W.listOf ws.toArray 0), (lm, LCg.lst [.float (mkT 0) f0, .float (mkT 1) f1, .float (mkT 2) f2, .float (mkT 3) f3, .float (mkT 4) f4, .float (mkT 5) f5]), (lr, LCg.lst [.ref v0, .ref v1, .ref v2, .ref v3, .ref v4, .ref v5]), (v5, (entL 5).tup d5 e51 e52 e53 e54), (d5, o5), (v4, (entL 4).tup d4 e41 e42 e43 e44), (d4, o4), (v3, (entL 3).tup d3 e31 e32 e33 e34), (d3, o3), (v2, (entL 2).tup d2 e21 e22 e23 e24), (d2, o2), (v1, (entL 1).tup d1 e11 e12 e13 e14), (d1, o1), (v0, (entL 0).tup d0 e01 e02 e03 e04), (d0, o0), (lc, lstO [.int 4 c1, .int 6 c2, .int 2 c3, .int 3 c4, .int 1 c5, .int 5 c6]), (51, oA), (cA, ocA), (58, oB), (cB, ocB)] → TabS 51 55 4 qA oA cA ocA → TabS 58 70 4 qB oB cB ocB → m' "codes" = some (.ref lc) → m' "ring" = some (.ref lr) → Qf .next { s with heap := h', toks := tk' })
   : wpAny (model PySem.Challenge.rw_ph0126_01.row.prog w) (ktrTop dp un gd (Str.ofString "law") scope L fa cd [] outer) (pyIter (.ref ax)) (fun it s₂ => LoopAtV PySem.Challenge.rw_ph0126_01.row.prog w (ktrTop dp un gd (Str.ofString "law") scope L fa cd [] outer) h₀ (envOf (Str.ofString "law") scope L fa cd) (Str.ofString "x") lb Qf Ef it s₂) Ef s := by
  revert X; k_fill; intro X
  conv at hb => lhs; whnf
  injection hb with hb
  injection hb with e1 e2
  subst e1 e2
  have N0 : News h₀ L s.heap ([(ax, PySem.W.listOf ws.toArray 0), (lm, LCg.lst [.float (mkT 0) f0, .float (mkT 1) f1, .float (mkT 2) f2, .float (mkT 3) f3, .float (mkT 4) f4, .float (mkT 5) f5]), (lr, LCg.lst [.ref v0, .ref v1, .ref v2, .ref v3, .ref v4, .ref v5]), (v5, (entL 5).tup d5 e51 e52 e53 e54), (d5, o5), (v4, (entL 4).tup d4 e41 e42 e43 e44), (d4, o4), (v3, (entL 3).tup d3 e31 e32 e33 e34), (d3, o3), (v2, (entL 2).tup d2 e21 e22 e23 e24), (d2, o2), (v1, (entL 1).tup d1 e11 e12 e13 e14), (d1, o1), (v0, (entL 0).tup d0 e01 e02 e03 e04), (d0, o0), (lc, lstO [.int 4 c1, .int 6 c2, .int 2 c3, .int 3 c4, .int 1 c5, .int 5 c6])] ++ [(51, tabObj #[]), (51, tabObj #[]), (58, tabObj #[]), (58, tabObj #[])]) := by
    intro p hp
    rcases List.mem_append.mp hp with hp | hp
    · exact N p (List.mem_append_left [_, _] hp)
    · simp only [List.mem_cons, List.not_mem_nil, or_false] at hp
      rcases hp with rfl | rfl | rfl | rfl <;> exact N _ (by k_mem)
  refine listLoop (lawJ [(ax, PySem.W.listOf ws.toArray 0), (lm, LCg.lst [.float (mkT 0) f0, .float (mkT 1) f1, .float (mkT 2) f2, .float (mkT 3) f3, .float (mkT 4) f4, .float (mkT 5) f5]), (lr, LCg.lst [.ref v0, .ref v1, .ref v2, .ref v3, .ref v4, .ref v5]), (v5, (entL 5).tup d5 e51 e52 e53 e54), (d5, o5), (v4, (entL 4).tup d4 e41 e42 e43 e44), (d4, o4), (v3, (entL 3).tup d3 e31 e32 e33 e34), (d3, o3), (v2, (entL 2).tup d2 e21 e22 e23 e24), (d2, o2), (v1, (entL 1).tup d1 e11 e12 e13 e14), (d1, o1), (v0, (entL 0).tup d0 e01 e02 e03 e04), (d0, o0), (lc, lstO [.int 4 c1, .int 6 c2, .int 2 c3, .int 3 c4, .int 1 c5, .int 5 c6])] [v0, d0, v1, d1, v2, d2, v3, d3, v4, d4, v5, d5] lc lr lm) rfl F N0 (lo := PySem.W.listOf ws.toArray 0) (n := 0) (.head _) rfl rfl ?_ ?_ ?_ ?_
  · intro I hI
    refine ⟨_, 51, _, _, 58, _, rfl, .inl ⟨rfl, rfl, rfl⟩, .inl ⟨rfl, rfl, rfl⟩, Shut.mk ⟨by decide, by decide⟩, ?_, hc, hr, hm, fun p hp => Nat.ne_of_lt (hI p hp)⟩
    intro b hb
    have o2 : Off2 b := by
      simp only [List.mem_cons, List.not_mem_nil, or_false] at hb
      rcases hb with rfl | rfl | rfl | rfl | rfl | rfl | rfl | rfl | rfl | rfl | rfl | rfl
      · exact ov.1
      · exact ov.2.1
      · exact ov.2.2.1
      · exact ov.2.2.2.1
      · exact ov.2.2.2.2.1
      · exact ov.2.2.2.2.2.1
      · exact ov.2.2.2.2.2.2.1
      · exact ov.2.2.2.2.2.2.2.1
      · exact ov.2.2.2.2.2.2.2.2.1
      · exact ov.2.2.2.2.2.2.2.2.2.1
      · exact ov.2.2.2.2.2.2.2.2.2.2.1
      · exact ov.2.2.2.2.2.2.2.2.2.2.2
    exact ⟨Ne.symm o2.1, Ne.symm o2.2⟩
  · rintro I m n ⟨oA, cA, ocA, oB, cB, ocB, rfl, _⟩
    exact .head _
  · rintro I v m₁ news₁ hv ⟨oA, cA, ocA, oB, cB, ocB, rfl, hA, hB, nAB, hcr, mc, mr, mm, off⟩ it h tk hcl F1 N1
    obtain ⟨n, t, rfl⟩ : ∃ n t, v = .int n t := by
      obtain ⟨j, hj⟩ := List.mem_iff_getElem?.mp hv
      obtain ⟨k, t, e, _⟩ := IntsAre.at iw j v hj
      exact ⟨k, t, e⟩
    replace F1 : Fr h₀ L h _ := F1
    replace N1 : News h₀ L h [(I, it), (ax, PySem.W.listOf ws.toArray 0), (lm, LCg.lst [.float (mkT 0) f0, .float (mkT 1) f1, .float (mkT 2) f2, .float (mkT 3) f3, .float (mkT 4) f4, .float (mkT 5) f5]), (lr, LCg.lst [.ref v0, .ref v1, .ref v2, .ref v3, .ref v4, .ref v5]), (v5, (entL 5).tup d5 e51 e52 e53 e54), (d5, o5), (v4, (entL 4).tup d4 e41 e42 e43 e44), (d4, o4), (v3, (entL 3).tup d3 e31 e32 e33 e34), (d3, o3), (v2, (entL 2).tup d2 e21 e22 e23 e24), (d2, o2), (v1, (entL 1).tup d1 e11 e12 e13 e14), (d1, o1), (v0, (entL 0).tup d0 e01 e02 e03 e04), (d0, o0), (lc, lstO [.int 4 c1, .int 6 c2, .int 2 c3, .int 3 c4, .int 1 c5, .int 5 c6]), (51, oA), (cA, ocA), (58, oB), (cB, ocB)] := N1
    have oI : Off2 I := Off2.mk (Ne.symm (off (51, oA) (by simp))) (Ne.symm (off (58, oB) (by simp)))
    (try dsimp only)
    k_steps
    refine mark ?_
    rename News _ _ _ _ => N2; rename Fr _ _ _ _ => F2
    have b1 := f13 n
    have b2 := f13 (n.fdiv 13)
    have b3 := f13 (n.fdiv 169)
    have ra0 := ringAtOf (oA := oA) (ocA := ocA) (oB := oB) (ocB := ocB) (p := 0) N2 (.tail _ (.tail _ (.tail _ (.tail _ (.tail _ (.tail _ (.tail _ (.tail _ (.tail _ (.tail _ (.tail _ (.tail _ (.tail _ (.tail _ (.tail _ (.head _)))))))))))))))) (.tail _ (.tail _ (.tail _ (.tail _ (.tail _ (.tail _ (.tail _ (.tail _ (.tail _ (.tail _ (.tail _ (.tail _ (.tail _ (.tail _ (.tail _ (.tail _ (.head _))))))))))))))))) ⟨(.head _), rfl, _, _, rfl⟩ ⟨(.tail _ (.tail _ (.tail _ (.tail _ (.tail _ (.tail _ (.tail _ (.tail _ (.tail _ (.tail _ (.tail _ (.tail _ (.tail _ (.tail _ (.tail _ (.tail _ (.tail _ (.head _)))))))))))))))))), rfl, _, _, rfl⟩ ⟨(.tail _ (.tail _ (.tail _ (.tail _ (.head _))))), rfl, _, _, rfl⟩ ⟨(.tail _ (.tail _ (.tail _ (.head _)))), rfl, _, _, rfl⟩ ⟨ov.1, ov.2.1⟩ ⟨hcr v0 (by simp), hcr d0 (by simp)⟩ lo0 D0
    have ra1 := ringAtOf (oA := oA) (ocA := ocA) (oB := oB) (ocB := ocB) (p := 1) N2 (.tail _ (.tail _ (.tail _ (.tail _ (.tail _ (.tail _ (.tail _ (.tail _ (.tail _ (.tail _ (.tail _ (.tail _ (.tail _ (.head _)))))))))))))) (.tail _ (.tail _ (.tail _ (.tail _ (.tail _ (.tail _ (.tail _ (.tail _ (.tail _ (.tail _ (.tail _ (.tail _ (.tail _ (.tail _ (.head _))))))))))))))) ⟨(.head _), rfl, _, _, rfl⟩ ⟨(.tail _ (.tail _ (.tail _ (.tail _ (.tail _ (.tail _ (.tail _ (.tail _ (.tail _ (.tail _ (.tail _ (.tail _ (.tail _ (.tail _ (.tail _ (.tail _ (.tail _ (.head _)))))))))))))))))), rfl, _, _, rfl⟩ ⟨(.tail _ (.tail _ (.tail _ (.tail _ (.head _))))), rfl, _, _, rfl⟩ ⟨(.tail _ (.tail _ (.tail _ (.head _)))), rfl, _, _, rfl⟩ ⟨ov.2.2.1, ov.2.2.2.1⟩ ⟨hcr v1 (by simp), hcr d1 (by simp)⟩ lo1 D1
    have ra2 := ringAtOf (oA := oA) (ocA := ocA) (oB := oB) (ocB := ocB) (p := 2) N2 (.tail _ (.tail _ (.tail _ (.tail _ (.tail _ (.tail _ (.tail _ (.tail _ (.tail _ (.tail _ (.tail _ (.head _)))))))))))) (.tail _ (.tail _ (.tail _ (.tail _ (.tail _ (.tail _ (.tail _ (.tail _ (.tail _ (.tail _ (.tail _ (.tail _ (.head _))))))))))))) ⟨(.head _), rfl, _, _, rfl⟩ ⟨(.tail _ (.tail _ (.tail _ (.tail _ (.tail _ (.tail _ (.tail _ (.tail _ (.tail _ (.tail _ (.tail _ (.tail _ (.tail _ (.tail _ (.tail _ (.tail _ (.tail _ (.head _)))))))))))))))))), rfl, _, _, rfl⟩ ⟨(.tail _ (.tail _ (.tail _ (.tail _ (.head _))))), rfl, _, _, rfl⟩ ⟨(.tail _ (.tail _ (.tail _ (.head _)))), rfl, _, _, rfl⟩ ⟨ov.2.2.2.2.1, ov.2.2.2.2.2.1⟩ ⟨hcr v2 (by simp), hcr d2 (by simp)⟩ lo2 D2
    have ra3 := ringAtOf (oA := oA) (ocA := ocA) (oB := oB) (ocB := ocB) (p := 3) N2 (.tail _ (.tail _ (.tail _ (.tail _ (.tail _ (.tail _ (.tail _ (.tail _ (.tail _ (.head _)))))))))) (.tail _ (.tail _ (.tail _ (.tail _ (.tail _ (.tail _ (.tail _ (.tail _ (.tail _ (.tail _ (.head _))))))))))) ⟨(.head _), rfl, _, _, rfl⟩ ⟨(.tail _ (.tail _ (.tail _ (.tail _ (.tail _ (.tail _ (.tail _ (.tail _ (.tail _ (.tail _ (.tail _ (.tail _ (.tail _ (.tail _ (.tail _ (.tail _ (.tail _ (.head _)))))))))))))))))), rfl, _, _, rfl⟩ ⟨(.tail _ (.tail _ (.tail _ (.tail _ (.head _))))), rfl, _, _, rfl⟩ ⟨(.tail _ (.tail _ (.tail _ (.head _)))), rfl, _, _, rfl⟩ ⟨ov.2.2.2.2.2.2.1, ov.2.2.2.2.2.2.2.1⟩ ⟨hcr v3 (by simp), hcr d3 (by simp)⟩ lo3 D3
    have ra4 := ringAtOf (oA := oA) (ocA := ocA) (oB := oB) (ocB := ocB) (p := 4) N2 (.tail _ (.tail _ (.tail _ (.tail _ (.tail _ (.tail _ (.tail _ (.head _)))))))) (.tail _ (.tail _ (.tail _ (.tail _ (.tail _ (.tail _ (.tail _ (.tail _ (.head _))))))))) ⟨(.head _), rfl, _, _, rfl⟩ ⟨(.tail _ (.tail _ (.tail _ (.tail _ (.tail _ (.tail _ (.tail _ (.tail _ (.tail _ (.tail _ (.tail _ (.tail _ (.tail _ (.tail _ (.tail _ (.tail _ (.tail _ (.head _)))))))))))))))))), rfl, _, _, rfl⟩ ⟨(.tail _ (.tail _ (.tail _ (.tail _ (.head _))))), rfl, _, _, rfl⟩ ⟨(.tail _ (.tail _ (.tail _ (.head _)))), rfl, _, _, rfl⟩ ⟨ov.2.2.2.2.2.2.2.2.1, ov.2.2.2.2.2.2.2.2.2.1⟩ ⟨hcr v4 (by simp), hcr d4 (by simp)⟩ lo4 D4
    have ra5 := ringAtOf (oA := oA) (ocA := ocA) (oB := oB) (ocB := ocB) (p := 5) N2 (.tail _ (.tail _ (.tail _ (.tail _ (.tail _ (.head _)))))) (.tail _ (.tail _ (.tail _ (.tail _ (.tail _ (.tail _ (.head _))))))) ⟨(.head _), rfl, _, _, rfl⟩ ⟨(.tail _ (.tail _ (.tail _ (.tail _ (.tail _ (.tail _ (.tail _ (.tail _ (.tail _ (.tail _ (.tail _ (.tail _ (.tail _ (.tail _ (.tail _ (.tail _ (.tail _ (.head _)))))))))))))))))), rfl, _, _, rfl⟩ ⟨(.tail _ (.tail _ (.tail _ (.tail _ (.head _))))), rfl, _, _, rfl⟩ ⟨(.tail _ (.tail _ (.tail _ (.head _)))), rfl, _, _, rfl⟩ ⟨ov.2.2.2.2.2.2.2.2.2.2.1, ov.2.2.2.2.2.2.2.2.2.2.2⟩ ⟨hcr v5 (by simp), hcr d5 (by simp)⟩ lo5 D5
    refine one_ok (x := n.fmod 13) (y := (n.fdiv 13).fmod 13) (z := (n.fdiv 169).fmod 13) (qs := [d0, d1, d2, d3, d4, d5]) F2 X T (sub8 N2 (by k_mem) (by k_mem) (by k_mem) (by k_mem) (by k_mem) (by k_mem) (by k_mem) (by k_mem)) C1 C2 (by ktr_room) (by omega) (by walk_at "mine tk") (Shut.mk hft) hA hB nAB ⟨Off2.mk (by (show _ ≠ _); omega) (by (show _ ≠ _); omega), oq⟩ ⟨b1.1, b1.2, b2.1, b2.2, b3.1, b3.2⟩ rfl rfl rfl (Shut.mk fun p hp => ?rg) (Shut.mk fun p hp => ?qq) (Shut.mk (planI ⟨b1.1, b1.2, b2.1, b2.2, b3.1, b3.2⟩ rfl rfl rfl)) ?_
    case rg =>
      match p, hp with
      | 0, _ => exact ⟨v0, rfl, ra0⟩
      | 1, _ => exact ⟨v1, rfl, ra1⟩
      | 2, _ => exact ⟨v2, rfl, ra2⟩
      | 3, _ => exact ⟨v3, rfl, ra3⟩
      | 4, _ => exact ⟨v4, rfl, ra4⟩
      | 5, _ => exact ⟨v5, rfl, ra5⟩
    case qq =>
      match p, hp with
      | 0, _ => exact hn0
      | 1, _ => exact hn1
      | 2, _ => exact hn2
      | 3, _ => exact hn3
      | 4, _ => exact hn4
      | 5, _ => exact hn5
    intro h2 tk2 oA' cA' ocA' oB' cB' ocB' _ K2 NT hA' hB' nAB' fr
    obtain ⟨_, _, _, _, _, _, ⟨gv0, _, nv0⟩, ⟨gd0, _, nd0⟩, _, _⟩ := ra0
    obtain ⟨_, _, _, _, _, _, ⟨gv1, _, nv1⟩, ⟨gd1, _, nd1⟩, _, _⟩ := ra1
    obtain ⟨_, _, _, _, _, _, ⟨gv2, _, nv2⟩, ⟨gd2, _, nd2⟩, _, _⟩ := ra2
    obtain ⟨_, _, _, _, _, _, ⟨gv3, _, nv3⟩, ⟨gd3, _, nd3⟩, _, _⟩ := ra3
    obtain ⟨_, _, _, _, _, _, ⟨gv4, _, nv4⟩, ⟨gd4, _, nd4⟩, _, _⟩ := ra4
    obtain ⟨_, _, _, _, _, _, ⟨gv5, _, nv5⟩, ⟨gd5, _, nd5⟩, _, _⟩ := ra5
    have NR : News h₀ L _ [(I, it), (ax, PySem.W.listOf ws.toArray 0), (lm, LCg.lst [.float (mkT 0) f0, .float (mkT 1) f1, .float (mkT 2) f2, .float (mkT 3) f3, .float (mkT 4) f4, .float (mkT 5) f5]), (lr, LCg.lst [.ref v0, .ref v1, .ref v2, .ref v3, .ref v4, .ref v5]), (v5, (entL 5).tup d5 e51 e52 e53 e54), (d5, o5), (v4, (entL 4).tup d4 e41 e42 e43 e44), (d4, o4), (v3, (entL 3).tup d3 e31 e32 e33 e34), (d3, o3), (v2, (entL 2).tup d2 e21 e22 e23 e24), (d2, o2), (v1, (entL 1).tup d1 e11 e12 e13 e14), (d1, o1), (v0, (entL 0).tup d0 e01 e02 e03 e04), (d0, o0), (lc, lstO [.int 4 c1, .int 6 c2, .int 2 c3, .int 3 c4, .int 1 c5, .int 5 c6])] := fun p hp => N2 p (.tail _ (List.mem_append_left [_, _, _, _] hp))
    have NT0 : NoTab [(I, it), (ax, PySem.W.listOf ws.toArray 0), (lm, LCg.lst [.float (mkT 0) f0, .float (mkT 1) f1, .float (mkT 2) f2, .float (mkT 3) f3, .float (mkT 4) f4, .float (mkT 5) f5]), (lr, LCg.lst [.ref v0, .ref v1, .ref v2, .ref v3, .ref v4, .ref v5]), (v5, (entL 5).tup d5 e51 e52 e53 e54), (d5, o5), (v4, (entL 4).tup d4 e41 e42 e43 e44), (d4, o4), (v3, (entL 3).tup d3 e31 e32 e33 e34), (d3, o3), (v2, (entL 2).tup d2 e21 e22 e23 e24), (d2, o2), (v1, (entL 1).tup d1 e11 e12 e13 e14), (d1, o1), (v0, (entL 0).tup d0 e01 e02 e03 e04), (d0, o0), (lc, lstO [.int 4 c1, .int 6 c2, .int 2 c3, .int 3 c4, .int 1 c5, .int 5 c6])] := ⟨⟨oI.1, oI.2⟩, ⟨oax.1, oax.2⟩, ⟨oq.2.2.1, oq.2.2.2⟩, ⟨oq.2.1.1, oq.2.1.2⟩, ⟨ov.2.2.2.2.2.2.2.2.2.2.1.1, ov.2.2.2.2.2.2.2.2.2.2.1.2⟩, ⟨ov.2.2.2.2.2.2.2.2.2.2.2.1, ov.2.2.2.2.2.2.2.2.2.2.2.2⟩, ⟨ov.2.2.2.2.2.2.2.2.1.1, ov.2.2.2.2.2.2.2.2.1.2⟩, ⟨ov.2.2.2.2.2.2.2.2.2.1.1, ov.2.2.2.2.2.2.2.2.2.1.2⟩, ⟨ov.2.2.2.2.2.2.1.1, ov.2.2.2.2.2.2.1.2⟩, ⟨ov.2.2.2.2.2.2.2.1.1, ov.2.2.2.2.2.2.2.1.2⟩, ⟨ov.2.2.2.2.1.1, ov.2.2.2.2.1.2⟩, ⟨ov.2.2.2.2.2.1.1, ov.2.2.2.2.2.1.2⟩, ⟨ov.2.2.1.1, ov.2.2.1.2⟩, ⟨ov.2.2.2.1.1, ov.2.2.2.1.2⟩, ⟨ov.1.1, ov.1.2⟩, ⟨ov.2.1.1, ov.2.1.2⟩, ⟨oq.1.1, oq.1.2⟩, trivial⟩
    have fv : ∀ b ∈ ([v0, d0, v1, d1, v2, d2, v3, d3, v4, d4, v5, d5] : List Addr), cA' ≠ b ∧ cB' ≠ b := by
      intro b hb
      simp only [List.mem_cons, List.not_mem_nil, or_false] at hb
      rcases hb with hb | hb | hb | hb | hb | hb | hb | hb | hb | hb | hb | hb
      · rw [hb]; exact fr v0 _ gv0 nv0
      · rw [hb]; exact fr d0 _ gd0 nd0
      · rw [hb]; exact fr v1 _ gv1 nv1
      · rw [hb]; exact fr d1 _ gd1 nd1
      · rw [hb]; exact fr v2 _ gv2 nv2
      · rw [hb]; exact fr d2 _ gd2 nd2
      · rw [hb]; exact fr v3 _ gv3 nv3
      · rw [hb]; exact fr d3 _ gd3 nd3
      · rw [hb]; exact fr v4 _ gv4 nv4
      · rw [hb]; exact fr d4 _ gd4 nd4
      · rw [hb]; exact fr v5 _ gv5 nv5
      · rw [hb]; exact fr d5 _ gd5 nd5
    have fI := fr I it (N2 _ (.tail _ (.head _))).1 (by
      intro q
      simp only [List.map_cons, List.map_nil, List.mem_cons, List.not_mem_nil, or_false] at q
      rcases q with q | q | q | q | q | q | q | q
      · exact absurd q (by refine neN ?_; omega)
      · exact off (lc, _) (.tail _ (.tail _ (.tail _ (.tail _ (.tail _ (.tail _ (.tail _ (.tail _ (.tail _ (.tail _ (.tail _ (.tail _ (.tail _ (.tail _ (.tail _ (.head _)))))))))))))))) q.symm
      · exact off (lr, _) (.tail _ (.tail _ (.head _))) q.symm
      · exact off (lm, _) (.tail _ (.head _)) q.symm
      · exact oI.1 q
      · exact off (cA, ocA) (.tail _ (.tail _ (.tail _ (.tail _ (.tail _ (.tail _ (.tail _ (.tail _ (.tail _ (.tail _ (.tail _ (.tail _ (.tail _ (.tail _ (.tail _ (.tail _ (.tail _ (.head _)))))))))))))))))) q.symm
      · exact oI.2 q
      · exact off (cB, ocB) (.tail _ (.tail _ (.tail _ (.tail _ (.tail _ (.tail _ (.tail _ (.tail _ (.tail _ (.tail _ (.tail _ (.tail _ (.tail _ (.tail _ (.tail _ (.tail _ (.tail _ (.tail _ (.tail _ (.head _)))))))))))))))))))) q.symm)
    have offc : ∀ p ∈ ([(ax, PySem.W.listOf ws.toArray 0), (lm, LCg.lst [.float (mkT 0) f0, .float (mkT 1) f1, .float (mkT 2) f2, .float (mkT 3) f3, .float (mkT 4) f4, .float (mkT 5) f5]), (lr, LCg.lst [.ref v0, .ref v1, .ref v2, .ref v3, .ref v4, .ref v5]), (v5, (entL 5).tup d5 e51 e52 e53 e54), (d5, o5), (v4, (entL 4).tup d4 e41 e42 e43 e44), (d4, o4), (v3, (entL 3).tup d3 e31 e32 e33 e34), (d3, o3), (v2, (entL 2).tup d2 e21 e22 e23 e24), (d2, o2), (v1, (entL 1).tup d1 e11 e12 e13 e14), (d1, o1), (v0, (entL 0).tup d0 e01 e02 e03 e04), (d0, o0), (lc, lstO [.int 4 c1, .int 6 c2, .int 2 c3, .int 3 c4, .int 1 c5, .int 5 c6])] : List (Addr × Obj)), p.1 ≠ I := fun p hp => off p (List.mem_append_left _ hp)
    have F3 := frAfter F2 N2 (ms := [51, 58]) (by
      intro b hb
      simp only [List.mem_cons, List.not_mem_nil, or_false] at hb
      rcases hb with rfl | rfl
      · exact ⟨oA, (.tail _ (.tail _ (.tail _ (.tail _ (.tail _ (.tail _ (.tail _ (.tail _ (.tail _ (.tail _ (.tail _ (.tail _ (.tail _ (.tail _ (.tail _ (.tail _ (.tail _ (.tail _ (.head _)))))))))))))))))))⟩
      · exact ⟨oB, (.tail _ (.tail _ (.tail _ (.tail _ (.tail _ (.tail _ (.tail _ (.tail _ (.tail _ (.tail _ (.tail _ (.tail _ (.tail _ (.tail _ (.tail _ (.tail _ (.tail _ (.tail _ (.tail _ (.tail _ (.head _)))))))))))))))))))))⟩) K2
    have N3 := newsApp (newsAfter NR NT0.out K2) NT
    simp only [List.cons_append, List.nil_append] at N3
    clear NR NT0 NT K2 F2 N2 fr hcr off
    (try clear gv0 gv1 gv2 gv3 gv4 gv5 gd0 gd1 gd2 gd3 gd4 gd5 nv0 nv1 nv2 nv3 nv4 nv5 nd0 nd1 nd2 nd3 nd4 nd5)
    dsimp only
    k_steps
    refine mark ?_
    rename News _ _ _ _ => N1; rename Fr _ _ _ _ => F1
    have off' : ∀ p ∈ [(ax, PySem.W.listOf ws.toArray 0), (lm, LCg.lst [.float (mkT 0) f0, .float (mkT 1) f1, .float (mkT 2) f2, .float (mkT 3) f3, .float (mkT 4) f4, .float (mkT 5) f5]), (lr, LCg.lst [.ref v0, .ref v1, .ref v2, .ref v3, .ref v4, .ref v5]), (v5, (entL 5).tup d5 e51 e52 e53 e54), (d5, o5), (v4, (entL 4).tup d4 e41 e42 e43 e44), (d4, o4), (v3, (entL 3).tup d3 e31 e32 e33 e34), (d3, o3), (v2, (entL 2).tup d2 e21 e22 e23 e24), (d2, o2), (v1, (entL 1).tup d1 e11 e12 e13 e14), (d1, o1), (v0, (entL 0).tup d0 e01 e02 e03 e04), (d0, o0), (lc, lstO [.int 4 c1, .int 6 c2, .int 2 c3, .int 3 c4, .int 1 c5, .int 5 c6])] ++ [(51, oA'), (cA', ocA'), (58, oB'), (cB', ocB')], p.1 ≠ I := by
      intro p hp
      rcases List.mem_append.mp hp with hp | hp
      · exact offc p hp
      · simp only [List.mem_cons, List.not_mem_nil, or_false] at hp
        rcases hp with rfl | rfl | rfl | rfl
        · exact Ne.symm oI.1
        · exact fI.1
        · exact Ne.symm oI.2
        · exact fI.2
    exact (show UnrEnd _ _ _ _ _ _ _ from ⟨_, _, _, _, rfl, F1, N1, off', oA', cA', ocA', oB', cB', ocB', rfl, hA', hB', nAB', fv, mc, mr, mm, off'⟩)
  · rintro I m₁ news₁ h tk ⟨oA, cA, ocA, oB, cB, ocB, rfl, hA, hB, nAB, hcr, mc, mr, mm, off⟩ F1 N1
    exact hF _ _ _ _ _ _ _ _ _ F1 N1 hA hB mc mr
end
section
theorem linesMl3x3 : True := by
  k_with_none
  k_with "mine enter" => ((refine' enter ?k2z430 ?k3z430 ?k4z430 ?k5z430 ?k6z430 ?k7z430 ?k8z430 ?k9z430 ?kBz430 ?_ ?c2z430 ?c3z430 ?c4z430 ?c5z430; (case k2z430 => k_asm); (case k3z430 => k_asm); (case k4z430 => k_asm); (case k5z430 => k_asm); (case k6z430 => k_is); (case k7z430 => k_is); (case k8z430 => ktr_room); (case k9z430 => exact BindsTo.of_eq rfl); (case c5z430 => decide); (case kBz430 => exact locs rfl); (case c2z430 => exact rfl); (case c3z430 => exact rfl); (case c4z430 => exact rfl); k_whole))
  k_with "mine keeps" => (((with_reducible rename Keeps _ _ _ => kK); (have F' := frAfter0 (by k_asm) kK); (have N' := newsAfter0 (by k_asm) kK); clear kK; (try k_sweep)))
  k_with "mine made" => (((with_reducible rename Keeps _ _ _ => kK); rename (Heap.get? _ _ = none) => kn; rename (Heap.get? _ _ = some _) => ks; (have l1 := allNe_of (by k_asm) kn); (have N' := newsIn (by k_asm) kn ks (newsAfter0 (by k_asm) kK)); (have F' := frAfter0 (by k_asm) kK); clear kK kn ks; (try k_sweep)))
  k_with "loadName" => ((k_here; k_dflt (refine' ldnE ?k1z442 ?kLz442 ?k2z442 ?_; (case k1z442 => k_asm); (case kLz442 => exact rfl); (case k2z442 => first | exact rfl | assumption | fail "no"); k_whole)))
  k_with "eval Name" => ((k_here; k_dflt (refine' ldE ?k1z443 ?kLz443 ?k2z443 ?_; (case k1z443 => k_asm); (case kLz443 => exact rfl); (case k2z443 => first | exact rfl | assumption | fail "no"); k_whole)))
  k_with "call ref" => (refine ofMark ?_)
  k_with "CompSrc" => (refine ofMark ?_)
  k_with "CompRest" => (refine ofMark ?_)
  k_with "CompSrcU" => (refine ofMark ?_)
  trivial
local macro_rules | `(tactic| walk_at "pyIter ref") => `(tactic| refine ofMark ?_)
theorem linesMl3x4 : True := by
  k_with "exec For" => (refine ofMark ?_)
  k_with "exec For Name BinOp cons nil" => (refine ofMark ?_)
  k_with "execs cons" => (((with_reducible show wpAny _ _ (execs (Stmt.Return _ _ :: _) _) _ _ _); refine ofMark ?_))
  trivial
set_option maxHeartbeats 8000000 in
theorem segL3 {params : Arguments} {body : List Stmt} {scope : Scope} {Qf : Flow → Shared → Prop} {Ef : Value → Shared → Prop} {fa lc sc : Addr} {cd : Value} {c1 c2 c3 c4 c5 c6 : Tok} {lr lm : Addr} {v0 d0 v1 d1 v2 d2 v3 d3 v4 d4 v5 d5 : Addr} {o0 o1 o2 o3 o4 o5 : Obj} {e01 e02 e03 e04 e05 e11 e12 e13 e14 e15 e21 e22 e23 e24 e25 e31 e32 e33 e34 e35 e41 e42 e43 e44 e45 e51 e52 e53 e54 e55 : Tok} {f0 f1 f2 f3 f4 f5 : Tok} {vs : List Value} {ns : List Int}
   (hI : lawDef = some (params, body, scope)) (F : Fr h₀ L s.heap m) (X : (Mine.hd.heap_1 w.params).In h₀) (T : Top pg lz mean mg mb h₀)
   (C1 : CodeHd h₀ 55 51) (C2 : CodeHd h₀ 62 58) (hd : dp + 60 < recursionLimit) (hun : un + 2000 < cLine)
   (N : News h₀ L s.heap [(lm, LCg.lst [.float (mkT 0) f0, .float (mkT 1) f1, .float (mkT 2) f2, .float (mkT 3) f3, .float (mkT 4) f4, .float (mkT 5) f5]), (lr, LCg.lst [.ref v0, .ref v1, .ref v2, .ref v3, .ref v4, .ref v5]), (v5, (entL 5).tup d5 e51 e52 e53 e54), (d5, o5), (v4, (entL 4).tup d4 e41 e42 e43 e44), (d4, o4), (v3, (entL 3).tup d3 e31 e32 e33 e34), (d3, o3), (v2, (entL 2).tup d2 e21 e22 e23 e24), (d2, o2), (v1, (entL 1).tup d1 e11 e12 e13 e14), (d1, o1), (v0, (entL 0).tup d0 e01 e02 e03 e04), (d0, o0), (lc, lstO [.int 4 c1, .int 6 c2, .int 2 c3, .int 3 c4, .int 1 c5, .int 5 c6]), (58, tabObj #[]), (51, tabObj #[])]) (hc : m "codes" = some (.ref lc)) (hs : m "script" = some (.ref sc)) (hr : m "ring" = some (.ref lr)) (hm : m "marks" = some (.ref lm))
   (hsl : h₀.IsList sc vs.toArray) (his : IntsAre vs ns) (hsn : ns.length ≤ 1000) (l5 : @LT.lt Nat _ 58 L)
   (hE : PassesOwn (model PySem.Challenge.rw_ph0126_01.row.prog w) (ktrTop dp un gd (Str.ofString "law") scope L fa cd [] outer) (envOf (Str.ofString "law") scope L fa cd) Ef)
   (oq : Off2 lc ∧ Off2 lr ∧ Off2 lm) (ov : Off2 v0 ∧ Off2 d0 ∧ Off2 v1 ∧ Off2 d1 ∧ Off2 v2 ∧ Off2 d2 ∧ Off2 v3 ∧ Off2 d3 ∧ Off2 v4 ∧ Off2 d4 ∧ Off2 v5 ∧ Off2 d5) (lo0 : (d0 == sysModules) = false) (D0 : o0.IsDictOf (PySem.intKind PG w) [(codeN 0, .int 1 e05)]) (lo1 : (d1 == sysModules) = false) (D1 : o1.IsDictOf (PySem.intKind PG w) [(codeN 1, .int 1 e15)]) (lo2 : (d2 == sysModules) = false) (D2 : o2.IsDictOf (PySem.intKind PG w) [(codeN 2, .int 1 e25)]) (lo3 : (d3 == sysModules) = false) (D3 : o3.IsDictOf (PySem.intKind PG w) [(codeN 3, .int 1 e35)]) (lo4 : (d4 == sysModules) = false) (D4 : o4.IsDictOf (PySem.intKind PG w) [(codeN 4, .int 1 e45)]) (lo5 : (d5 == sysModules) = false) (D5 : o5.IsDictOf (PySem.intKind PG w) [(codeN 5, .int 1 e55)]) (hn0 : d0 ≠ d1) (hn1 : d1 ≠ d2) (hn2 : d2 ≠ d3) (hn3 : d3 ≠ d4) (hn4 : d4 ≠ d5) (hn5 : d5 ≠ d0) (hft : Tk True f0 ∧ Tk True f1 ∧ Tk True f2 ∧ Tk True f3 ∧ Tk True f4 ∧ Tk True f5)
   (hF : ∀ (m' : Str → Option Value) (h' : Heap) (tk' : Nat) (oA : Obj) (cA : Addr) (ocA : Obj) (oB : Obj) (cB : Addr) (ocB : Obj), Fr h₀ L h' m' → News h₀ L h' [(lm, LCg.lst [.float (mkT 0) f0, .float (mkT 1) f1, .float (mkT 2) f2, .float (mkT 3) f3, .float (mkT 4) f4, .float (mkT 5) f5]), (lr, LCg.lst [.ref v0, .ref v1, .ref v2, .ref v3, .ref v4, .ref v5]), (v5, (entL 5).tup d5 e51 e52 e53 e54), (d5, o5), (v4, (entL 4).tup d4 e41 e42 e43 e44), (d4, o4), (v3, (entL 3).tup d3 e31 e32 e33 e34), (d3, o3), (v2, (entL 2).tup d2 e21 e22 e23 e24), (d2, o2), (v1, (entL 1).tup d1 e11 e12 e13 e14), (d1, o1), (v0, (entL 0).tup d0 e01 e02 e03 e04), (d0, o0), (lc, lstO [.int 4 c1, .int 6 c2, .int 2 c3, .int 3 c4, .int 1 c5, .int 5 c6]), (51, oA), (cA, ocA), (58, oB), (cB, ocB)] → TabS 51 55 4 qA oA cA ocA → TabS 58 70 4 qB oB cB ocB → m' "codes" = some (.ref lc) → m' "ring" = some (.ref lr) →
      wpAny (model PySem.Challenge.rw_ph0126_01.row.prog w) (ktrTop dp un gd (Str.ofString "law") scope L fa cd [] outer) (execs (body.drop 4) (envOf (Str.ofString "law") scope L fa cd)) Qf Ef { s with heap := h', toks := tk' })
   : wpAny (model PySem.Challenge.rw_ph0126_01.row.prog w) (ktrTop dp un gd (Str.ofString "law") scope L fa cd [] outer) (execs (body.drop 3) (envOf (Str.ofString "law") scope L fa cd)) Qf Ef s := by
  revert X; k_fill; intro X
  conv at hI => lhs; whnf
  injection hI with hI
  injection hI with e1 e2
  injection e2 with e2 e3
  subst e1 e2 e3
  dsimp only [List.drop]
  (try k_fold)
  k_steps
  refine mark ?_
  rename Fr _ _ _ _ => F1
  refine For_invVF F1 ?kk1 ?kk2 ?_ (hE := hE)
  case kk1 => exact rfl
  case kk2 => exact rfl
  k_steps
  refine mark ?_
  rename News _ _ _ _ => N1; rename Fr _ _ _ _ => F1; rename IntsAre _ _ => iw
  refine' lawLoop rfl ?zF X T C1 C2 hd hun ?zN iw ?zO hc hr hm oq ov lo0 D0 lo1 D1 lo2 D2 lo3 D3 lo4 D4 lo5 D5 hn0 hn1 hn2 hn3 hn4 hn5 hft ?_
  case zF => exact F1
  case zO => exact Off2.mk (by refine neN ?_; omega) (by refine neN ?_; omega)
  case zN => exact fun p hp => N1 p (drop2 hp)
  intro m5 h5 tk5 oA cA ocA oB cB ocB F5 N5 hA hB a1 a2
  dsimp only
  k_steps
  refine mark ?_
  rename News _ _ _ _ => N1; rename Fr _ _ _ _ => F1
  exact hF _ _ _ _ _ _ _ _ _ F1 (fun p hp => N1 p (.tail _ hp)) hA hB a1 a2
end
end
/-! text Ml4 -/
section
theorem linesMl4x1 : True := by
  k_with_none
  k_with "mine enter" => ((refine' enter ?k2z451 ?k3z451 ?k4z451 ?k5z451 ?k6z451 ?k7z451 ?k8z451 ?k9z451 ?kBz451 ?_ ?c2z451 ?c3z451 ?c4z451 ?c5z451; (case k2z451 => k_asm); (case k3z451 => k_asm); (case k4z451 => k_asm); (case k5z451 => k_asm); (case k6z451 => k_is); (case k7z451 => k_is); (case k8z451 => ktr_room); (case k9z451 => exact BindsTo.of_eq rfl); (case c5z451 => decide); (case kBz451 => exact locs rfl); (case c2z451 => exact rfl); (case c3z451 => exact rfl); (case c4z451 => exact rfl); k_whole))
  k_with "mine keeps" => (((with_reducible rename Keeps _ _ _ => kK); (have F' := frAfter0 (by k_asm) kK); (have N' := newsAfter0 (by k_asm) kK); clear kK; (try k_sweep)))
  k_with "mine made" => (((with_reducible rename Keeps _ _ _ => kK); rename (Heap.get? _ _ = none) => kn; rename (Heap.get? _ _ = some _) => ks; (have l1 := allNe_of (by k_asm) kn); (have N' := newsIn (by k_asm) kn ks (newsAfter0 (by k_asm) kK)); (have F' := frAfter0 (by k_asm) kK); clear kK kn ks; (try k_sweep)))
  trivial
variable {pg : Program} {lz : List Str} {w : World} {mean : ExcName → Option Value} {mg mb : Str → Option Value}
   {dp un : Nat} {gd : Option (List Code)} {cn : Str} {cs : Scope} {a : Addr} {ccd : Value} {cl : List (Str × Addr)} {outer : List Env} {h₀ : Heap} {L : Addr} {m : Str → Option Value} {s : Shared} {Q E : Value → Shared → Prop}
section
theorem linesMl4x2 : True := by
  k_with "loadName" => ((k_here; k_dflt (refine' ldnE ?k1z454 ?kLz454 ?k2z454 ?_; (case k1z454 => k_asm); (case kLz454 => exact rfl); (case k2z454 => first | exact rfl | assumption | fail "no"); k_whole)))
  k_with "eval Name" => ((k_here; k_dflt (refine' ldE ?k1z455 ?kLz455 ?k2z455 ?_; (case k1z455 => k_asm); (case kLz455 => exact rfl); (case k2z455 => first | exact rfl | assumption | fail "no"); k_whole)))
  k_with "call ref" => (refine ofMark ?_)
  k_with "CompSrc" => (refine ofMark ?_)
  k_with "CompRest" => (refine ofMark ?_)
  k_with "CompSrcU" => (refine ofMark ?_)
  k_with "compareOp Eq ref ref" => (refine ofMark ?_)
  trivial
set_option maxHeartbeats 8000000 in
theorem segL4 {params : Arguments} {body : List Stmt} {scope : Scope} {Qf : Flow → Shared → Prop} {Ef : Value → Shared → Prop} {fa lc sc : Addr} {cd : Value} {c1 c2 c3 c4 c5 c6 : Tok} {lr lm : Addr} {v0 d0 v1 d1 v2 d2 v3 d3 v4 d4 v5 d5 : Addr} {o0 o1 o2 o3 o4 o5 : Obj} {e01 e02 e03 e04 e05 e11 e12 e13 e14 e15 e21 e22 e23 e24 e25 e31 e32 e33 e34 e35 e41 e42 e43 e44 e45 e51 e52 e53 e54 e55 : Tok} {f0 f1 f2 f3 f4 f5 : Tok} {oA : Obj} {cA : Addr} {ocA : Obj} {oB : Obj} {cB : Addr} {ocB : Obj}
   (hI : lawDef = some (params, body, scope)) (F : Fr h₀ L s.heap m) (X : (Mine.hd.heap_1 w.params).In h₀) (T : Top pg lz mean mg mb h₀)
   (C1 : CodeHd h₀ 55 51) (C2 : CodeHd h₀ 62 58) (hd : dp + 60 < recursionLimit) (hun : un + 2000 < cLine)
   (N : News h₀ L s.heap [(lm, LCg.lst [.float (mkT 0) f0, .float (mkT 1) f1, .float (mkT 2) f2, .float (mkT 3) f3, .float (mkT 4) f4, .float (mkT 5) f5]), (lr, LCg.lst [.ref v0, .ref v1, .ref v2, .ref v3, .ref v4, .ref v5]), (v5, (entL 5).tup d5 e51 e52 e53 e54), (d5, o5), (v4, (entL 4).tup d4 e41 e42 e43 e44), (d4, o4), (v3, (entL 3).tup d3 e31 e32 e33 e34), (d3, o3), (v2, (entL 2).tup d2 e21 e22 e23 e24), (d2, o2), (v1, (entL 1).tup d1 e11 e12 e13 e14), (d1, o1), (v0, (entL 0).tup d0 e01 e02 e03 e04), (d0, o0), (lc, lstO [.int 4 c1, .int 6 c2, .int 2 c3, .int 3 c4, .int 1 c5, .int 5 c6]), (51, oA), (cA, ocA), (58, oB), (cB, ocB)]) (hc : m "codes" = some (.ref lc)) (hr : m "ring" = some (.ref lr)) (lo0 : (d0 == sysModules) = false) (D0 : o0.IsDictOf (PySem.intKind PG w) [(codeN 0, .int 1 e05)]) (lo1 : (d1 == sysModules) = false) (D1 : o1.IsDictOf (PySem.intKind PG w) [(codeN 1, .int 1 e15)]) (lo2 : (d2 == sysModules) = false) (D2 : o2.IsDictOf (PySem.intKind PG w) [(codeN 2, .int 1 e25)]) (lo3 : (d3 == sysModules) = false) (D3 : o3.IsDictOf (PySem.intKind PG w) [(codeN 3, .int 1 e35)]) (lo4 : (d4 == sysModules) = false) (D4 : o4.IsDictOf (PySem.intKind PG w) [(codeN 4, .int 1 e45)]) (lo5 : (d5 == sysModules) = false) (D5 : o5.IsDictOf (PySem.intKind PG w) [(codeN 5, .int 1 e55)]) (hn0 : d0 ≠ d1) (hn1 : d1 ≠ d2) (hn2 : d2 ≠ d3) (hn3 : d3 ≠ d4) (hn4 : d4 ≠ d5) (hn5 : d5 ≠ d0)
   (hF : ∀ (m' : Str → Option Value) (h' : Heap) (tk' : Nat), Fr h₀ L h' m' → News h₀ L h' [(51, oA), (cA, ocA), (58, oB), (cB, ocB)] → Qf (.ret (.bool true)) { s with heap := h', toks := tk' })
   : wpAny (model PySem.Challenge.rw_ph0126_01.row.prog w) (ktrTop dp un gd (Str.ofString "law") scope L fa cd [] outer) (execs (body.drop 4) (envOf (Str.ofString "law") scope L fa cd)) Qf Ef s := by
  revert X; k_fill; intro X
  conv at hI => lhs; whnf
  injection hI with hI
  injection hI with e1 e2
  injection e2 with e2 e3
  subst e1 e2 e3
  dsimp only [List.drop]
  (try k_fold)
  k_steps
  refine mark ?_
  rename News _ _ _ _ => N1; rename Fr _ _ _ _ => F1
  refine LCg.CompSrc.ledger rfl F1 N1 (by k_mem) (Nat.le_of_ble_eq_true rfl) ?_
  intro g
  clear F1 N1
  refine LCg.CompRest.succ (k := 5) ?_
  intro vv I oI C oC D mm hh tkk Ee hv hC hx F1 N1 off nee
  have evv := (Option.some.inj hv).symm
  subst evv
  clear hv
  (try dsimp only)
  k_steps
  refine mark ?_
  refine corner_ok F1 X T (by ktr_room) ?_
  intro v0' d0' o0' h2 tk2 e01_ e02_ e03_ e04_ e05_ K2 n1 n2 ne g1 g2 lo0' D0'
  have l2 := allNe_of N1 n2
  have l1 := allNe_of N1 n1
  have N2 : News h₀ L h2 ((v0', (entL 0).tup d0' e01_ e02_ e03_ e04_) :: _) := newsIn F1 n1 g1 (newsIn F1 n2 g2 (newsAfter0 N1 K2))
  have F2 := frAfter0 F1 K2
  have nv0 : v0 ≠ v0' := l1.get (by k_mem)
  have nd0 : d0 ≠ d0' := l2.get (by k_mem)
  clear K2 n1 n2 g1 g2 F1 N1 ne
  refine ⟨_, _, [(v0', (entL 0).tup d0' e01_ e02_ e03_ e04_), (d0', o0'), (lm, LCg.lst [.float (mkT 0) f0, .float (mkT 1) f1, .float (mkT 2) f2, .float (mkT 3) f3, .float (mkT 4) f4, .float (mkT 5) f5]), (lr, LCg.lst [.ref v0, .ref v1, .ref v2, .ref v3, .ref v4, .ref v5]), (v5, (entL 5).tup d5 e51 e52 e53 e54), (d5, o5), (v4, (entL 4).tup d4 e41 e42 e43 e44), (d4, o4), (v3, (entL 3).tup d3 e31 e32 e33 e34), (d3, o3), (v2, (entL 2).tup d2 e21 e22 e23 e24), (d2, o2), (v1, (entL 1).tup d1 e11 e12 e13 e14), (d1, o1), (v0, (entL 0).tup d0 e01 e02 e03 e04), (d0, o0), (lc, lstO [.int 4 c1, .int 6 c2, .int 2 c3, .int 3 c4, .int 1 c5, .int 5 c6]), (51, oA), (cA, ocA), (58, oB), (cB, ocB)], rfl, F2, swapR N2, ⟨⟨l1I l1, l1C l1, l1D l1⟩, ⟨l1I l2, l1C l2, l1D l2⟩, off⟩, .inr ⟨_, by k_mem, rfl, _, rfl⟩, ?_⟩
  clear l1 l2 F2 N2 off
  refine LCg.CompRest.succ (k := 4) ?_
  intro vv I oI C oC D mm hh tkk Ee hv hC hx F1 N1 off nee
  have evv := (Option.some.inj hv).symm
  subst evv
  clear hv
  (try dsimp only)
  k_steps
  refine mark ?_
  refine corner_ok F1 X T (by ktr_room) ?_
  intro v1' d1' o1' h2 tk2 e11_ e12_ e13_ e14_ e15_ K2 n1 n2 ne g1 g2 lo1' D1'
  have l2 := allNe_of N1 n2
  have l1 := allNe_of N1 n1
  have N2 : News h₀ L h2 ((v1', (entL 1).tup d1' e11_ e12_ e13_ e14_) :: _) := newsIn F1 n1 g1 (newsIn F1 n2 g2 (newsAfter0 N1 K2))
  have F2 := frAfter0 F1 K2
  have nv1 : v1 ≠ v1' := l1.get (by k_mem)
  have nd1 : d1 ≠ d1' := l2.get (by k_mem)
  clear K2 n1 n2 g1 g2 F1 N1 ne
  refine ⟨_, _, [(v1', (entL 1).tup d1' e11_ e12_ e13_ e14_), (d1', o1'), (v0', (entL 0).tup d0' e01_ e02_ e03_ e04_), (d0', o0'), (lm, LCg.lst [.float (mkT 0) f0, .float (mkT 1) f1, .float (mkT 2) f2, .float (mkT 3) f3, .float (mkT 4) f4, .float (mkT 5) f5]), (lr, LCg.lst [.ref v0, .ref v1, .ref v2, .ref v3, .ref v4, .ref v5]), (v5, (entL 5).tup d5 e51 e52 e53 e54), (d5, o5), (v4, (entL 4).tup d4 e41 e42 e43 e44), (d4, o4), (v3, (entL 3).tup d3 e31 e32 e33 e34), (d3, o3), (v2, (entL 2).tup d2 e21 e22 e23 e24), (d2, o2), (v1, (entL 1).tup d1 e11 e12 e13 e14), (d1, o1), (v0, (entL 0).tup d0 e01 e02 e03 e04), (d0, o0), (lc, lstO [.int 4 c1, .int 6 c2, .int 2 c3, .int 3 c4, .int 1 c5, .int 5 c6]), (51, oA), (cA, ocA), (58, oB), (cB, ocB)], rfl, F2, swapR N2, ⟨⟨l1I l1, l1C l1, l1D l1⟩, ⟨l1I l2, l1C l2, l1D l2⟩, off⟩, .inr ⟨_, by k_mem, rfl, _, rfl⟩, ?_⟩
  clear l1 l2 F2 N2 off
  refine LCg.CompRest.succ (k := 3) ?_
  intro vv I oI C oC D mm hh tkk Ee hv hC hx F1 N1 off nee
  have evv := (Option.some.inj hv).symm
  subst evv
  clear hv
  (try dsimp only)
  k_steps
  refine mark ?_
  refine corner_ok F1 X T (by ktr_room) ?_
  intro v2' d2' o2' h2 tk2 e21_ e22_ e23_ e24_ e25_ K2 n1 n2 ne g1 g2 lo2' D2'
  have l2 := allNe_of N1 n2
  have l1 := allNe_of N1 n1
  have N2 : News h₀ L h2 ((v2', (entL 2).tup d2' e21_ e22_ e23_ e24_) :: _) := newsIn F1 n1 g1 (newsIn F1 n2 g2 (newsAfter0 N1 K2))
  have F2 := frAfter0 F1 K2
  have nv2 : v2 ≠ v2' := l1.get (by k_mem)
  have nd2 : d2 ≠ d2' := l2.get (by k_mem)
  clear K2 n1 n2 g1 g2 F1 N1 ne
  refine ⟨_, _, [(v2', (entL 2).tup d2' e21_ e22_ e23_ e24_), (d2', o2'), (v1', (entL 1).tup d1' e11_ e12_ e13_ e14_), (d1', o1'), (v0', (entL 0).tup d0' e01_ e02_ e03_ e04_), (d0', o0'), (lm, LCg.lst [.float (mkT 0) f0, .float (mkT 1) f1, .float (mkT 2) f2, .float (mkT 3) f3, .float (mkT 4) f4, .float (mkT 5) f5]), (lr, LCg.lst [.ref v0, .ref v1, .ref v2, .ref v3, .ref v4, .ref v5]), (v5, (entL 5).tup d5 e51 e52 e53 e54), (d5, o5), (v4, (entL 4).tup d4 e41 e42 e43 e44), (d4, o4), (v3, (entL 3).tup d3 e31 e32 e33 e34), (d3, o3), (v2, (entL 2).tup d2 e21 e22 e23 e24), (d2, o2), (v1, (entL 1).tup d1 e11 e12 e13 e14), (d1, o1), (v0, (entL 0).tup d0 e01 e02 e03 e04), (d0, o0), (lc, lstO [.int 4 c1, .int 6 c2, .int 2 c3, .int 3 c4, .int 1 c5, .int 5 c6]), (51, oA), (cA, ocA), (58, oB), (cB, ocB)], rfl, F2, swapR N2, ⟨⟨l1I l1, l1C l1, l1D l1⟩, ⟨l1I l2, l1C l2, l1D l2⟩, off⟩, .inr ⟨_, by k_mem, rfl, _, rfl⟩, ?_⟩
  clear l1 l2 F2 N2 off
  refine LCg.CompRest.succ (k := 2) ?_
  intro vv I oI C oC D mm hh tkk Ee hv hC hx F1 N1 off nee
  have evv := (Option.some.inj hv).symm
  subst evv
  clear hv
  (try dsimp only)
  k_steps
  refine mark ?_
  refine corner_ok F1 X T (by ktr_room) ?_
  intro v3' d3' o3' h2 tk2 e31_ e32_ e33_ e34_ e35_ K2 n1 n2 ne g1 g2 lo3' D3'
  have l2 := allNe_of N1 n2
  have l1 := allNe_of N1 n1
  have N2 : News h₀ L h2 ((v3', (entL 3).tup d3' e31_ e32_ e33_ e34_) :: _) := newsIn F1 n1 g1 (newsIn F1 n2 g2 (newsAfter0 N1 K2))
  have F2 := frAfter0 F1 K2
  have nv3 : v3 ≠ v3' := l1.get (by k_mem)
  have nd3 : d3 ≠ d3' := l2.get (by k_mem)
  clear K2 n1 n2 g1 g2 F1 N1 ne
  refine ⟨_, _, [(v3', (entL 3).tup d3' e31_ e32_ e33_ e34_), (d3', o3'), (v2', (entL 2).tup d2' e21_ e22_ e23_ e24_), (d2', o2'), (v1', (entL 1).tup d1' e11_ e12_ e13_ e14_), (d1', o1'), (v0', (entL 0).tup d0' e01_ e02_ e03_ e04_), (d0', o0'), (lm, LCg.lst [.float (mkT 0) f0, .float (mkT 1) f1, .float (mkT 2) f2, .float (mkT 3) f3, .float (mkT 4) f4, .float (mkT 5) f5]), (lr, LCg.lst [.ref v0, .ref v1, .ref v2, .ref v3, .ref v4, .ref v5]), (v5, (entL 5).tup d5 e51 e52 e53 e54), (d5, o5), (v4, (entL 4).tup d4 e41 e42 e43 e44), (d4, o4), (v3, (entL 3).tup d3 e31 e32 e33 e34), (d3, o3), (v2, (entL 2).tup d2 e21 e22 e23 e24), (d2, o2), (v1, (entL 1).tup d1 e11 e12 e13 e14), (d1, o1), (v0, (entL 0).tup d0 e01 e02 e03 e04), (d0, o0), (lc, lstO [.int 4 c1, .int 6 c2, .int 2 c3, .int 3 c4, .int 1 c5, .int 5 c6]), (51, oA), (cA, ocA), (58, oB), (cB, ocB)], rfl, F2, swapR N2, ⟨⟨l1I l1, l1C l1, l1D l1⟩, ⟨l1I l2, l1C l2, l1D l2⟩, off⟩, .inr ⟨_, by k_mem, rfl, _, rfl⟩, ?_⟩
  clear l1 l2 F2 N2 off
  refine LCg.CompRest.succ (k := 1) ?_
  intro vv I oI C oC D mm hh tkk Ee hv hC hx F1 N1 off nee
  have evv := (Option.some.inj hv).symm
  subst evv
  clear hv
  (try dsimp only)
  k_steps
  refine mark ?_
  refine corner_ok F1 X T (by ktr_room) ?_
  intro v4' d4' o4' h2 tk2 e41_ e42_ e43_ e44_ e45_ K2 n1 n2 ne g1 g2 lo4' D4'
  have l2 := allNe_of N1 n2
  have l1 := allNe_of N1 n1
  have N2 : News h₀ L h2 ((v4', (entL 4).tup d4' e41_ e42_ e43_ e44_) :: _) := newsIn F1 n1 g1 (newsIn F1 n2 g2 (newsAfter0 N1 K2))
  have F2 := frAfter0 F1 K2
  have nv4 : v4 ≠ v4' := l1.get (by k_mem)
  have nd4 : d4 ≠ d4' := l2.get (by k_mem)
  clear K2 n1 n2 g1 g2 F1 N1 ne
  refine ⟨_, _, [(v4', (entL 4).tup d4' e41_ e42_ e43_ e44_), (d4', o4'), (v3', (entL 3).tup d3' e31_ e32_ e33_ e34_), (d3', o3'), (v2', (entL 2).tup d2' e21_ e22_ e23_ e24_), (d2', o2'), (v1', (entL 1).tup d1' e11_ e12_ e13_ e14_), (d1', o1'), (v0', (entL 0).tup d0' e01_ e02_ e03_ e04_), (d0', o0'), (lm, LCg.lst [.float (mkT 0) f0, .float (mkT 1) f1, .float (mkT 2) f2, .float (mkT 3) f3, .float (mkT 4) f4, .float (mkT 5) f5]), (lr, LCg.lst [.ref v0, .ref v1, .ref v2, .ref v3, .ref v4, .ref v5]), (v5, (entL 5).tup d5 e51 e52 e53 e54), (d5, o5), (v4, (entL 4).tup d4 e41 e42 e43 e44), (d4, o4), (v3, (entL 3).tup d3 e31 e32 e33 e34), (d3, o3), (v2, (entL 2).tup d2 e21 e22 e23 e24), (d2, o2), (v1, (entL 1).tup d1 e11 e12 e13 e14), (d1, o1), (v0, (entL 0).tup d0 e01 e02 e03 e04), (d0, o0), (lc, lstO [.int 4 c1, .int 6 c2, .int 2 c3, .int 3 c4, .int 1 c5, .int 5 c6]), (51, oA), (cA, ocA), (58, oB), (cB, ocB)], rfl, F2, swapR N2, ⟨⟨l1I l1, l1C l1, l1D l1⟩, ⟨l1I l2, l1C l2, l1D l2⟩, off⟩, .inr ⟨_, by k_mem, rfl, _, rfl⟩, ?_⟩
  clear l1 l2 F2 N2 off
  refine LCg.CompRest.succ (k := 0) ?_
  intro vv I oI C oC D mm hh tkk Ee hv hC hx F1 N1 off nee
  have evv := (Option.some.inj hv).symm
  subst evv
  clear hv
  (try dsimp only)
  k_steps
  refine mark ?_
  refine corner_ok F1 X T (by ktr_room) ?_
  intro v5' d5' o5' h2 tk2 e51_ e52_ e53_ e54_ e55_ K2 n1 n2 ne g1 g2 lo5' D5'
  have l2 := allNe_of N1 n2
  have l1 := allNe_of N1 n1
  have N2 : News h₀ L h2 ((v5', (entL 5).tup d5' e51_ e52_ e53_ e54_) :: _) := newsIn F1 n1 g1 (newsIn F1 n2 g2 (newsAfter0 N1 K2))
  have F2 := frAfter0 F1 K2
  have nv5 : v5 ≠ v5' := l1.get (by k_mem)
  have nd5 : d5 ≠ d5' := l2.get (by k_mem)
  clear K2 n1 n2 g1 g2 F1 N1 ne
  refine ⟨_, _, [(v5', (entL 5).tup d5' e51_ e52_ e53_ e54_), (d5', o5'), (v4', (entL 4).tup d4' e41_ e42_ e43_ e44_), (d4', o4'), (v3', (entL 3).tup d3' e31_ e32_ e33_ e34_), (d3', o3'), (v2', (entL 2).tup d2' e21_ e22_ e23_ e24_), (d2', o2'), (v1', (entL 1).tup d1' e11_ e12_ e13_ e14_), (d1', o1'), (v0', (entL 0).tup d0' e01_ e02_ e03_ e04_), (d0', o0'), (lm, LCg.lst [.float (mkT 0) f0, .float (mkT 1) f1, .float (mkT 2) f2, .float (mkT 3) f3, .float (mkT 4) f4, .float (mkT 5) f5]), (lr, LCg.lst [.ref v0, .ref v1, .ref v2, .ref v3, .ref v4, .ref v5]), (v5, (entL 5).tup d5 e51 e52 e53 e54), (d5, o5), (v4, (entL 4).tup d4 e41 e42 e43 e44), (d4, o4), (v3, (entL 3).tup d3 e31 e32 e33 e34), (d3, o3), (v2, (entL 2).tup d2 e21 e22 e23 e24), (d2, o2), (v1, (entL 1).tup d1 e11 e12 e13 e14), (d1, o1), (v0, (entL 0).tup d0 e01 e02 e03 e04), (d0, o0), (lc, lstO [.int 4 c1, .int 6 c2, .int 2 c3, .int 3 c4, .int 1 c5, .int 5 c6]), (51, oA), (cA, ocA), (58, oB), (cB, ocB)], rfl, F2, swapR N2, ⟨⟨l1I l1, l1C l1, l1D l1⟩, ⟨l1I l2, l1C l2, l1D l2⟩, off⟩, .inr ⟨_, by k_mem, rfl, _, rfl⟩, ?_⟩
  clear l1 l2 F2 N2 off
  refine LCg.CompRest.zero ?_
  unfold LCg.FinE
  intro lr' h3 tk3 F3 N3 of9
  (try dsimp only)
  k_steps
  refine mark ?_
  rename News _ _ _ _ => N1; rename Fr _ _ _ _ => F1
  refine eqLs (l := lr) (xs := [.ref v0, .ref v1, .ref v2, .ref v3, .ref v4, .ref v5]) (ys := [.ref v0', .ref v1', .ref v2', .ref v3', .ref v4', .ref v5']) ⟨_, (N1 (lr, _) (by k_mem)).1, rfl, _, rfl⟩ ⟨_, (N1 _ (.head _)).1, rfl, _, rfl⟩ (by ktr_units) ?he ?_
  case he =>
    refine ⟨eqR_at nv0 (tupAt N1 (by k_mem)) (tupAt N1 (by k_mem)) ?u0 ?e0, eqR_at nv1 (tupAt N1 (by k_mem)) (tupAt N1 (by k_mem)) ?u1 ?e1, eqR_at nv2 (tupAt N1 (by k_mem)) (tupAt N1 (by k_mem)) ?u2 ?e2, eqR_at nv3 (tupAt N1 (by k_mem)) (tupAt N1 (by k_mem)) ?u3 ?e3, eqR_at nv4 (tupAt N1 (by k_mem)) (tupAt N1 (by k_mem)) ?u4 ?e4, eqR_at nv5 (tupAt N1 (by k_mem)) (tupAt N1 (by k_mem)) ?u5 ?e5, trivial⟩
    case u0 => ktr_units
    case e0 => exact ⟨eqI_at rfl, eqI_at rfl, eqI_at rfl, eqI_at rfl, eqD_at nd0 (N1 (d0, o0) (by k_mem)).1 (N1 (d0', o0') (by k_mem)).1 lo0 lo0' D0 D0' (by ktr_units), trivial⟩
    case u1 => ktr_units
    case e1 => exact ⟨eqI_at rfl, eqI_at rfl, eqI_at rfl, eqI_at rfl, eqD_at nd1 (N1 (d1, o1) (by k_mem)).1 (N1 (d1', o1') (by k_mem)).1 lo1 lo1' D1 D1' (by ktr_units), trivial⟩
    case u2 => ktr_units
    case e2 => exact ⟨eqI_at rfl, eqI_at rfl, eqI_at rfl, eqI_at rfl, eqD_at nd2 (N1 (d2, o2) (by k_mem)).1 (N1 (d2', o2') (by k_mem)).1 lo2 lo2' D2 D2' (by ktr_units), trivial⟩
    case u3 => ktr_units
    case e3 => exact ⟨eqI_at rfl, eqI_at rfl, eqI_at rfl, eqI_at rfl, eqD_at nd3 (N1 (d3, o3) (by k_mem)).1 (N1 (d3', o3') (by k_mem)).1 lo3 lo3' D3 D3' (by ktr_units), trivial⟩
    case u4 => ktr_units
    case e4 => exact ⟨eqI_at rfl, eqI_at rfl, eqI_at rfl, eqI_at rfl, eqD_at nd4 (N1 (d4, o4) (by k_mem)).1 (N1 (d4', o4') (by k_mem)).1 lo4 lo4' D4 D4' (by ktr_units), trivial⟩
    case u5 => ktr_units
    case e5 => exact ⟨eqI_at rfl, eqI_at rfl, eqI_at rfl, eqI_at rfl, eqD_at nd5 (N1 (d5, o5) (by k_mem)).1 (N1 (d5', o5') (by k_mem)).1 lo5 lo5' D5 D5' (by ktr_units), trivial⟩
  k_steps
  exact hF _ _ _ F1 (fun p hp => N1 p (List.mem_append_right ([_, _, _, _, _, _, _, _, _, _, _, _, _, _, _, _, _, _, _, _, _, _, _, _, _, _, _, _] : List (Addr × Obj)) hp))
end
end
/-! text Ml5 -/
section
theorem linesMl5x1 : True := by
  k_with_none
  k_with "mine enter" => ((refine' enter ?k2z461 ?k3z461 ?k4z461 ?k5z461 ?k6z461 ?k7z461 ?k8z461 ?k9z461 ?kBz461 ?_ ?c2z461 ?c3z461 ?c4z461 ?c5z461; (case k2z461 => k_asm); (case k3z461 => k_asm); (case k4z461 => k_asm); (case k5z461 => k_asm); (case k6z461 => k_is); (case k7z461 => k_is); (case k8z461 => ktr_room); (case k9z461 => exact BindsTo.of_eq rfl); (case c5z461 => decide); (case kBz461 => exact locs rfl); (case c2z461 => exact rfl); (case c3z461 => exact rfl); (case c4z461 => exact rfl); k_whole))
  k_with "mine keeps" => (((with_reducible rename Keeps _ _ _ => kK); (have F' := frAfter0 (by k_asm) kK); (have N' := newsAfter0 (by k_asm) kK); clear kK; (try k_sweep)))
  k_with "mine made" => (((with_reducible rename Keeps _ _ _ => kK); rename (Heap.get? _ _ = none) => kn; rename (Heap.get? _ _ = some _) => ks; (have l1 := allNe_of (by k_asm) kn); (have N' := newsIn (by k_asm) kn ks (newsAfter0 (by k_asm) kK)); (have F' := frAfter0 (by k_asm) kK); clear kK kn ks; (try k_sweep)))
  trivial
variable {pg : Program} {lz : List Str} {w : World} {mean : ExcName → Option Value} {mg mb : Str → Option Value}
   {dp un : Nat} {gd : Option (List Code)} {cn : Str} {cs : Scope} {a : Addr} {ccd : Value} {cl : List (Str × Addr)} {outer : List Env} {h₀ : Heap} {L : Addr} {m : Str → Option Value} {s : Shared} {Q E : Value → Shared → Prop}
section
theorem linesMl5x2 : True := by
  k_with "execs cons" => (((with_reducible show wpAny _ _ (execs (Stmt.Assign [Expr.Name (Str.ofString "ring") _] _ _ :: _) _) _ _ _); refine ofMark ?_))
  trivial
set_option maxHeartbeats 8000000 in
theorem law0 : PySem.Challenge.rw_ph0126_01.Holds := hd (by
  k_go0
  all_goals try k_fold
  k_steps
  refine mark ?_
  rename News _ _ _ _ => N1; rename Fr _ _ _ _ => F1
  rename (¬ ((63 : Nat) : Int) < _) => h63
  refine segL1 rfl F1 (by k_asm) (by k_asm) (by k_asm) (by k_asm) ?d1 ?d2 N1 rfl rfl ?_
  case d1 => decide
  case d2 => first | decide | exact Nat.le_of_ble_eq_true rfl
  intro m2 h2 tk2 lr v0 d0 v1 d1 v2 d2 v3 d3 v4 d4 v5 d5 o0 o1 o2 o3 o4 o5 e01 e02 e03 e04 e05 e11 e12 e13 e14 e15 e21 e22 e23 e24 e25 e31 e32 e33 e34 e35 e41 e42 e43 e44 e45 e51 e52 e53 e54 e55 F2 N2 oo lo0 D0 lo1 D1 lo2 D2 lo3 D3 lo4 D4 lo5 D5 hn0 hn1 hn2 hn3 hn4 hn5 a1 a2 a3
  clear F1 N1
  refine segL2 (e05 := 0) (e15 := 0) (e25 := 0) (e35 := 0) (e45 := 0) (e55 := 0) rfl F2 (by k_asm) (by k_asm) (by k_asm) (by k_asm) ?d3 ?d4 N2 a1 a2 a3 ?_
  case d3 => decide
  case d4 => first | decide | exact Nat.le_of_ble_eq_true rfl
  intro m3 h3 tk3 lm f0 f1 f2 f3 f4 f5 F3 N3 om hft b1 b2 b3 b4
  clear F2 N2
  refine segL3 rfl F3 (by k_asm) (by k_asm) (by k_asm) (by k_asm) ?d5 ?d6 N3 b1 b2 b3 b4 (by assumption) (by assumption) (by omega) (by omega) (by passes_own) ⟨Off2.mk (by refine neN ?_; omega) (by refine neN ?_; omega), oo.1, om⟩ oo.2 lo0 D0 lo1 D1 lo2 D2 lo3 D3 lo4 D4 lo5 D5 hn0 hn1 hn2 hn3 hn4 hn5 hft ?_
  case d5 => decide
  case d6 => first | decide | exact Nat.le_of_ble_eq_true rfl
  intro m4 h4 tk4 oA cA ocA oB cB ocB F4 N4 hA hB c1 c2
  clear F3 N3
  refine segL4 (sc := 0) rfl F4 (by k_asm) (by k_asm) (by k_asm) (by k_asm) ?d7 ?d8 N4 c1 c2 lo0 D0 lo1 D1 lo2 D2 lo3 D3 lo4 D4 lo5 D5 hn0 hn1 hn2 hn3 hn4 hn5 ?_
  case d7 => decide
  case d8 => first | decide | exact Nat.le_of_ble_eq_true rfl
  intro m5 h5 tk5 F5 N5
  clear F4 N4
  rcases hA with ⟨rfl, rfl, rfl⟩ | ⟨rfl, hneA, fsA, tA, hocA, hfsA⟩ <;> rcases hB with ⟨rfl, rfl, rfl⟩ | ⟨rfl, hneB, fsB, tB, hocB, hfsB⟩ <;> dsimp only
  all_goals k_steps
  )
end
end
end Mine
theorem PySem.Challenge.cw_ph0126_01_holds : PySem.Challenge.rw_ph0126_01.Holds := by
  exact Mine.law0
