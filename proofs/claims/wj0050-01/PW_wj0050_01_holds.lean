import PyProof.Rows.All
import Wide.All
import OpenK.AllK
import Wide.FinOn
import Lean
import PySem.Challenge.RW_wj0050_01
open PySem PySem.W PyProof.Rows PySem.Spec PySem.Calls
set_option Elab.async false
set_option maxRecDepth 100000
set_option maxHeartbeats 8000000
set_option rowWalk.seconds 0
set_option compiler.extract_closed false
namespace Mine
noncomputable def Halt (P : Prop) : Prop := P
theorem halt {P : Prop} (h : Halt P) : P := h
/-- the program that the row speaks of -/
noncomputable abbrev progR : Program := (OpenRow.toRowW (OpenLaw.row Challenge.rw_wj0050_01)).1
/-- its text without the six names that the head leaves loose -/
noncomputable def view : Program := { progR with main := { progR.main with body := [0, 1, 3, 4, 5, 7, 8, 9, 10, 11, 13, 14, 16, 17, 18, 20, 22, 23, 24, 25, 26, 27, 28, 29, 30, 31].filterMap fun i => progR.main.body[i]? } }
-- what the top leaves is left to be shown (its run in pieces lays more than 32 MiB)
local macro_rules | `(tactic| o_head $H) => `(tactic| (refine holds_open (q := view) (loose := [Str.ofString "Flags", Str.ofString "_twin_re_1", Str.ofString "tspecials", Str.ofString "_name_disallowed_re", Str.ofString "_value_disallowed_re", Str.ofString "_formatparam"]) (Xt := fun s => xlAt view [] s && recOk (RowW.records (OpenRow.toRowW (OpenLaw.row Challenge.rw_wj0050_01))) s) (XP := XL view []) (Yf := Hook.obs $H) (Ya := Hook.val $H) (YP := Hook.says $H) (N := 3650) (And.left ?hc) (Hook.of $H) (Hook.keeps $H) (fun s e => xl_of s (Bool.and_eq_true_iff.mp e).1) XL.keeps (by rfl) (by rfl) (by rfl) (fun s e => recFacts_of (Bool.and_eq_true_iff.mp e).2) (by rfl) (by first | assumption | decide +kernel) (by decide +kernel) ⟨rfl, rfl, rfl, rfl, rfl, by decide +kernel⟩ ?hw (And.right ?hc)))
local macro_rules | `(tactic| o_law) => `(tactic| refine holds_law (by decide +kernel) fun said => ?_)
open_top hd for PySem.Challenge.rw_wj0050_01
/-- what is to be shown of the top's run in a world -/
noncomputable abbrev AtW {P : World → Prop} {B C : Prop} (_ : (∀ w, P w) ∧ B → C) (w : World) : Prop := P w
theorem left0 : ∀ w : World, AtW hd (w.withFollow "special-get-raises" false) := fun w => by kernel_rfl
theorem left1 : ∀ w : World, AtW hd (w.withFollow "special-get-raises" true) := fun w => by kernel_rfl
theorem left : ∀ w : World, AtW hd w := byRow2 "special-get-raises" left0 left1
theorem off_W0 : True := by
  w_top off
  trivial
section
structure NoHalt : Prop where
structure NoEnter : Prop where
structure Mark (n : Nat) : Prop where
@[elab_as_elim] theorem mem_elim {α : Type} {a : α} {l : List α} {motive : α → Prop} {b : α} (h : b ∈ a :: l) (h1 : motive a) (h2 : b ∈ l → motive b) : motive b := by
  rcases List.mem_cons.mp h with rfl | h
  · exact h1
  · exact h2 h
noncomputable def Hold (P : Prop) : Prop := P
theorem hold {P : Prop} (h : Hold P) : P := h
noncomputable abbrev Led := List (Addr × Obj)
/-- what stood in the heap stands there still, but for the objects «as» -/
noncomputable def Kept (h h' : Heap) (as : List Addr) : Prop := ∀ b o, h.get? b = some o → b ∉ as → h'.get? b = some o
/-- the callee's contract: at any frame; «news» are the objects that it may change -/
noncomputable def Spec (w : World) (dd uu : Nat) (f : Addr) (vs : List Value) (kw : List (Str × Value)) (news : Led) (Ret : Heap → Value → Led → Prop) : Prop :=
  ∀ (loose : List Str) (mean : ExcName → Option Value) (mg mb : Str → Option Value) (dp un : Nat) (gd : Option (List Code)) (cn : Str) (cs : Scope) (a : Addr) (ccd : Value) (cl : List (Str × Addr)) (outer : List Env) (A₀ : Around) (base h₀ : Heap) (L : Addr) (m : Str → Option Value) (s : Shared) (R : Result → Shared → Prop),
    Below A₀ base outer h₀ → Fr h₀ L s.heap m → (hd.heap_1 w.params).In h₀ → News h₀ L s.heap news → Top view loose mean mg mb h₀ → cs.kind = .function →
    dp + dd < recursionLimit → un + uu < cLine →
    (∀ r h' tk' news', Fr h₀ L h' m → News h₀ L h' news' → Kept s.heap h' (L :: news.map (·.1)) → Ret s.heap r news' → R (.ok (.ret r)) { s with heap := h', toks := tk' }) →
    codeAny (model Challenge.rw_wj0050_01.row.prog w) (ktrTop dp un gd cn cs L a ccd cl outer) (.call (.ref f) ⟨vs, kw⟩) R s

theorem Spec.useC {w : World} {dd uu : Nat} {f : Addr} {vs : List Value} {kw : List (Str × Value)} {news : Led} {Ret : Heap → Value → Led → Prop} (h : Spec w dd uu f vs kw news Ret)
    {loose : List Str} {mean : ExcName → Option Value} {mg mb : Str → Option Value} {dp un : Nat} {gd : Option (List Code)} {cn : Str} {cs : Scope} {a : Addr} {ccd : Value} {cl : List (Str × Addr)} {outer : List Env} {A₀ : Around} {base h₀ : Heap} {L : Addr} {m : Str → Option Value} {s : Shared} {R : Result → Shared → Prop} {led : Led} (rest : Led)
    (B : Below A₀ base outer h₀) (F : Fr h₀ L s.heap m) (X : (hd.heap_1 w.params).In h₀) (N : News h₀ L s.heap led) (T : Top view loose mean mg mb h₀) (hk : cs.kind = .function)
    (hd : dp + dd < recursionLimit) (hu : un + uu < cLine) (h1 : ∀ p ∈ news, p ∈ led) (h2 : ∀ p ∈ rest, p ∈ led) (h3 : ∀ p ∈ rest, p.1 ∉ news.map (·.1))
    (hR : ∀ r h' tk' news', Fr h₀ L h' m → News h₀ L h' (news' ++ rest) → Kept s.heap h' (L :: news.map (·.1)) → Ret s.heap r news' → R (.ok (.ret r)) { s with heap := h', toks := tk' }) :
    codeAny (model Challenge.rw_wj0050_01.row.prog w) (ktrTop dp un gd cn cs L a ccd cl outer) (.call (.ref f) ⟨vs, kw⟩) R s := by
  refine h _ _ _ _ _ _ _ _ _ _ _ _ _ _ _ _ _ _ _ _ B F X (fun p hp => N p (h1 p hp)) T hk hd hu fun r h' tk' news' F' N' K' R' => hR r h' tk' news' F' (fun p hp => ?_) K' R'
  rcases List.mem_append.mp hp with hp | hp
  · exact N' p hp
  · have q := N p (h2 p hp)
    refine ⟨K' _ _ q.1 fun e => ?_, q.2⟩
    rcases List.mem_cons.mp e with e | e
    · exact q.2.1 e
    · exact h3 p hp e

theorem Spec.use {w : World} {dd uu : Nat} {f : Addr} {vs : List Value} {kw : List (Str × Value)} {news : Led} {Ret : Heap → Value → Led → Prop} (h : Spec w dd uu f vs kw news Ret)
    {loose : List Str} {mean : ExcName → Option Value} {mg mb : Str → Option Value} {dp un : Nat} {gd : Option (List Code)} {cn : Str} {cs : Scope} {a : Addr} {ccd : Value} {cl : List (Str × Addr)} {outer : List Env} {A₀ : Around} {base h₀ : Heap} {L : Addr} {m : Str → Option Value} {s : Shared} {Q E : Value → Shared → Prop} {led : Led} (rest : Led)
    (B : Below A₀ base outer h₀) (F : Fr h₀ L s.heap m) (X : (hd.heap_1 w.params).In h₀) (N : News h₀ L s.heap led) (T : Top view loose mean mg mb h₀) (hk : cs.kind = .function)
    (hd : dp + dd < recursionLimit) (hu : un + uu < cLine) (h1 : ∀ p ∈ news, p ∈ led) (h2 : ∀ p ∈ rest, p ∈ led) (h3 : ∀ p ∈ rest, p.1 ∉ news.map (·.1))
    (hR : ∀ r h' tk' news', Fr h₀ L h' m → News h₀ L h' (news' ++ rest) → Kept s.heap h' (L :: news.map (·.1)) → Ret s.heap r news' → Q r { s with heap := h', toks := tk' }) :
    wpAny (model Challenge.rw_wj0050_01.row.prog w) (ktrTop dp un gd cn cs L a ccd cl outer) (call (.ref f) vs kw) Q E s :=
  wpAny_call (Spec.useC h rest B F X N T hk hd hu h1 h2 h3 fun r h' tk' news' F' N' K' R' => hR r h' tk' news' F' N' K' R')

/-- the callee is entered -/
theorem Spec.enter {w : World} {dd uu : Nat} {f : Addr} {vs : List Value} {kw : List (Str × Value)} {news : Led} {Ret : Heap → Value → Led → Prop} {name qual : Str} {params : Arguments} {body : List Stmt} {scope : Scope} {dV kV doc pm cdv ct oc : Value} {an od : Option Addr} {osl : Array (Option Value)} {binds : List (Str × Value)}
    (ho : (hd.heap_1 w.params).lookup f = some ⟨oc, od, .func (fnOf name qual params body scope dV kV doc pm an cdv ct), osl⟩) (hcd : codeIn (hd.heap_1 w.params) cdv qual = true)
    (hbind : ∀ s, (hd.heap_1 w.params).In s.heap → BindsTo s (fnOf name qual params body scope dV kV doc pm an cdv ct) ⟨vs, kw⟩ binds) (hloc : ∀ y ∈ binds, scope.names.lookup y.1 = some .local)
    (hco : scope.isCoroutine = false) (hgen : scope.isGenerator = false) (hk : scope.kind = .function) (hcell : ∀ x ∈ scope.names, x.2 ≠ .cell) (hdd : 0 < dd)
    (h : ∀ (loose : List Str) (mean : ExcName → Option Value) (mg mb : Str → Option Value) (dp un : Nat) (gd : Option (List Code)) (outer : List Env) (A₀ : Around) (base g : Heap) (L : Addr) (h₁ : Heap) (s : Shared) (Q : Flow → Shared → Prop) (tk : Nat),
      Below A₀ base outer g → Fr g L h₁ (fun y => binds.reverse.lookup y) → (hd.heap_1 w.params).In g → News g L h₁ news → Top view loose mean mg mb g → dp + dd < recursionLimit + 1 → un + uu < cLine + 3 →
      (∀ b o, s.heap.get? b = some o → b ∉ news.map (·.1) → g.get? b = some o) →
      (∀ r h' tk' m' news' fl, (match fl with | Flow.ret v => v | _ => .none) = r → Fr g L h' m' → News g L h' news' → Ret s.heap r news' → Q fl { s with heap := h', toks := tk' }) →
      wpAny (model Challenge.rw_wj0050_01.row.prog w) (ktrTop dp un gd qual scope L f cdv [] outer) (execs body (envOf qual scope L f cdv)) Q (fun _ _ => False) { s with heap := h₁, toks := tk }) : Spec w dd uu f vs kw news Ret := by
  unfold Spec
  intro loose mean mg mb dp un gd cn cs a ccd cl outer A₀ base h₀ L m s R B F X N T hk' hd' hu hR
  refine code_defG B F X N T rfl rfl hk' ho hcd (by show dp < _; omega) (hbind s (X.keeps F.keep)) hloc (fun g L' h₁ FG F' N' B' X' T' G' => ?_) hco hgen hk hcell
  refine wpAny_noRaise (h loose mean mg mb (dp + 1) (un + 3) gd _ _ base g L' h₁ s _ _ B' F' X' N' T' (by omega) (by omega) G' fun r h' tk' m' news' fl e F₁ N₁ R₁ => ?_)
  refine ⟨L', m', news', F₁, N₁, fun F₂ N₂ => ?_⟩
  subst e
  exact hR _ h' tk' news' F₂ N₂ (fun b o e n => F₁.keep b o (G' b o e fun q => n (List.mem_cons_of_mem _ q))) R₁

/-- a ledger's part -/
theorem led_nil (led : Led) : ∀ p ∈ ([] : Led), p ∈ led := fun _ h => nomatch h
theorem led_no {as : List Addr} : ∀ p ∈ ([] : Led), p.1 ∉ as := fun _ h => nomatch h
theorem led_self (led : Led) : ∀ p ∈ led, p ∈ led := fun _ h => h
theorem led_none (led : Led) : ∀ p ∈ led, p.1 ∉ ([] : List Addr) := fun _ _ h => nomatch h
theorem roomN {a b c d L : Nat} (h : a + b < L + d) (hd : c + d ≤ b) : a + c < L := by omega
theorem ne_lt {a b x : Nat} {r : Prop} (h : x < b ∧ r) (k : x < b ∧ r → a < b) : a ≠ b := Nat.ne_of_lt (k h)
theorem ne_gt {a b x : Nat} {r : Prop} (h : x < a ∧ r) (k : x < a ∧ r → b < a) : a ≠ b := Nat.ne_of_gt (k h)
theorem lt_via {a b x : Nat} {r : Prop} (h : x < b ∧ r) (k : x < b ∧ r → a < b) : a < b := k h
theorem jEq {j n i : Nat} (h : n = i) (a : ¬ j < n) (b : j - n < 1) : j = i := by omega
theorem subL {i n : Nat} (h : i < n) : n + 1 - (i + 1) < n + 1 - i := Nat.sub_lt_sub_left (Nat.lt_succ_of_lt h) (Nat.lt_succ_self i)
theorem addNe {I a b : Nat} (h : a ≠ b) : I + a ≠ I + b := fun e => h (Nat.add_left_cancel e)
end
theorem off_W01 : True := by
  w_top off
  trivial
section
/-- all that stands above the base, as a ledger -/
theorem full_led (h₀ h : Heap) (L : Addr) : ∃ full : Led, News h₀ L h full ∧ ∀ b o, h.get? b = some o → h₀.get? b = none → b ≠ L → (b, o) ∈ full := by
  classical
  refine ⟨(List.range h.objs.size).filterMap fun b => match h.get? b with
    | some o => if h₀.get? b = none ∧ b ≠ L then some (b, o) else none
    | none => none, fun p hp => ?_, fun b o e hn hL => ?_⟩
  · obtain ⟨b, _, e⟩ := List.mem_filterMap.mp hp
    cases q : h.get? b with
    | none => rw [q] at e; cases e
    | some o =>
      rw [q] at e
      by_cases hc : h₀.get? b = none ∧ b ≠ L
      · simp only [hc, and_self, if_true, ne_eq, not_false_eq_true] at e
        cases e
        exact ⟨q, hc.2, hc.1⟩
      · simp only [hc, if_false] at e
        cases e
  · refine List.mem_filterMap.mpr ⟨b, List.mem_range.mpr (Heap.lt_size e), ?_⟩
    rw [e]
    simp [hn, hL]
/-- the callee with **names is entered -/
theorem Spec.enterKw {w : World} {dd uu : Nat} {f : Addr} {vs : List Value} {kw ex front : List (Str × Value)} {news : Led} {Ret : Heap → Value → Led → Prop} {name qual : Str} {params : Arguments} {body : List Stmt} {scope : Scope} {dV kV doc pm cdv ct oc : Value} {an od : Option Addr} {osl : Array (Option Value)} {nm : Str} {DD : List (PyData × PyData)} {g₁ : Addr → Sem (List (Str × Value))}
    (ho : (hd.heap_1 w.params).lookup f = some ⟨oc, od, .func (fnOf name qual params body scope dV kV doc pm an cdv ct), osl⟩) (hcd : codeIn (hd.heap_1 w.params) cdv qual = true)
    (hn : kwDistinct ex = true) (hD : PyProof.V.FlatPairs PyData.str ex DD)
    (hp : peekA (hd.heap_1 w.params) ⟨Challenge.rw_wj0050_01.row.prog, w.params⟩ (bindArgs (fnOf name qual params body scope dV kV doc pm an cdv ct) ⟨vs, kw⟩) = some (dictOf [] 0, g₁))
    (hk₁ : ∀ D, g₁ D = (forIn ex PUnit.unit (fun x _ => (nsSet D x.1 x.2 >>= fun _ => pure (ForInStep.yield PUnit.unit))) >>= fun _ => pure (front ++ [(nm, Value.ref D)])))
    (hloc : ∀ D, ∀ y ∈ front ++ [(nm, Value.ref D)], scope.names.lookup y.1 = some .local)
    (hco : scope.isCoroutine = false) (hgen : scope.isGenerator = false) (hk : scope.kind = .function) (hcell : ∀ x ∈ scope.names, x.2 ≠ .cell) (hdd : 0 < dd)
    (h : ∀ (loose : List Str) (mean : ExcName → Option Value) (mg mb : Str → Option Value) (dp un : Nat) (gd : Option (List Code)) (outer : List Env) (A₀ : Around) (base g : Heap) (L : Addr) (h₁ : Heap) (s : Shared) (Q : Flow → Shared → Prop) (tk : Nat) (D : Addr) (o : Obj),
      (∀ p ∈ news, p.1 < D) → (D == sysModules) = false → o.IsDictOf (strKind Challenge.rw_wj0050_01.row.prog w) ex → PyProof.V.FlatPairs PyData.str ex DD →
      Below A₀ base outer g → Fr g L h₁ (fun y => (front ++ [(nm, Value.ref D)]).reverse.lookup y) → (hd.heap_1 w.params).In g → News g L h₁ ((D, o) :: news) → Top view loose mean mg mb g → dp + dd < recursionLimit + 1 → un + uu < cLine + 3 →
      (∀ b o, s.heap.get? b = some o → b < D) →
      (∀ r h' tk' m' news' fl, (match fl with | Flow.ret v => v | _ => .none) = r → Fr g L h' m' → News g L h' news' → Ret s.heap r news' → Q fl { s with heap := h', toks := tk' }) →
      wpAny (model Challenge.rw_wj0050_01.row.prog w) (ktrTop dp un gd qual scope L f cdv [] outer) (execs body (envOf qual scope L f cdv)) Q (fun _ _ => False) { s with heap := h₁, toks := tk }) : Spec w dd uu f vs kw news Ret := by
  unfold Spec
  intro loose mean mg mb dp un gd cn cs a ccd cl outer A₀ base h₀ L m s R B F X N T hk' hd' hu hR
  have hn' := kwDistinct_nodup hn
  obtain ⟨full, NF, hfull⟩ := full_led h₀ s.heap L
  have hsub : ∀ p ∈ news, p ∈ full := fun p hp => hfull _ _ (N p hp).1 (N p hp).2.2 (N p hp).2.1
  refine codeAny_call_function (fd := fnOf name qual params body scope dV kV doc pm an cdv ct) (body := body) (by show dp < _; omega) ((X.keeps F.keep) _ _ ho) rfl hco hgen rfl (codeRec_of (X.keeps F.keep) hcd) ?_
  refine wp_of_peekA (o := dictOf [] 0) F NF (X.keeps F.keep) rfl _ g₁ hp fun h' F' N' l => ?_
  rw [hk₁]
  refine wpAny_bind (kp_fill ex { s with heap := h' } [] 0 F' N' (fun p hp => Nat.ne_of_lt (l p hp)) (fun _ he => nomatch he) (fun _ he => nomatch he) hn' fun h'' F'' N'' => wpAny_pure ?_)
  have Nn : News h₀ L h'' ((s.heap.objs.size, dictOf ([] ++ kwEs w.params s.toks ex) (0 + ex.length)) :: news) := fun p hp => by
    rcases List.mem_cons.mp hp with rfl | hp
    · exact N'' _ (.head _)
    · exact N'' p (.tail _ (hsub p hp))
  have hkeep : ∀ b o, s.heap.get? b = some o → b ≠ L → h''.get? b = some o := fun b o e hL => by
    cases q : h₀.get? b with
    | none => exact (N'' (b, o) (.tail _ (hfull b o e q hL))).1
    | some o' =>
      have e' := F.keep b o' q
      rw [e] at e'
      cases e'
      exact F''.keep b o q
  obtain ⟨FG, BG, st, lv⟩ := groundX (A := ktrTop dp un gd cn cs L a ccd cl outer) (env := envX cn cs L a ccd cl) (s := { s with heap := h'', toks := s.toks + ex.length }) (R := R) B F'' Nn rfl rfl hk'
  refine wpAny_newFunctionEnv hcell (hloc _) (fun h₁ hns hsb => ⟨(T.nolimit.keeps F''.keep).fresh _ hsb, codeAny_func ?_⟩) hk
  have hk₂ : ∀ b o, h''.get? b = some o → h₁.get? b = some o := fun b o e => hsb.extBut b o (Nat.ne_of_lt (Heap.lt_size e)) (Heap.get?_push_of_some _ e)
  refine wpAny_noRaise (wpAny_mono (h loose mean mg mb (dp + 1) (un + 3) gd _ _ base _ h''.objs.size h₁ s (fun fl s' => LeaveK h₀ L m (hideAll h'' (((s.heap.objs.size, dictOf ([] ++ kwEs w.params s.toks ex) (0 + ex.length)) :: news).map (·.1))) R (match fl with | .ret v => v | _ => .none) s') _ s.heap.objs.size _
    (fun p hp => l p (hsub p hp)) (F.notModules (modules_low T.nolimit)) (kp_isDict s.toks (0 + ex.length) hn') hD BG
    ⟨hns, fun b o e => hk₂ b o (of_hideAll _ e), Nat.le_of_eq (hideAll_size _ _)⟩ (X.keeps st) (fun p hp => ⟨hk₂ _ _ (Nn p hp).1, Nat.ne_of_lt (Heap.lt_size (Nn p hp).1), hideAll_none _ (List.mem_map_of_mem hp)⟩) (T.keeps st) (by omega) (by omega)
    (fun b o e => Heap.lt_size e) fun r h₃ tk' m' news' fl e F₁ N₁ R₁ => ?_) (fun fl s' hl => lv _ _ hl) fun _ _ y => y)
  refine ⟨_, m', news', F₁, N₁, fun F₂ N₂ => ?_⟩
  subst e
  refine hR _ h₃ tk' news' F₂ N₂ (fun b o e n => F₁.keep b o (hideAll_get _ (hkeep b o e fun q => n (by rw [q]; exact .head _)) fun q => ?_)) R₁
  rcases List.mem_cons.mp q with q | q
  · exact absurd (Heap.lt_size e) (by rw [q]; exact Nat.lt_irrefl _)
  · exact n (.tail _ q)
end
theorem fill_all (w : World) (h : Heap) : (hd.heap_1 w.params).In h → Challenge.rw_wj0050_01 = Challenge.rw_wj0050_01 → True := by k_fill; intros; trivial
local macro_rules | `(tactic| walk_at "ite") => `(tactic| (with_reducible first | refine ite_ff ?_ | refine ite_tt ?_))
local macro_rules | `(tactic| k_room) => `(tactic| ktr_room)
local macro_rules | `(tactic| k_units) => `(tactic| ktr_units)
local macro_rules | `(tactic| k_extra "pr") => `(tactic| (refine ne_lt (by assumption) fun hz9 => ?_; (iterate 14 (first | done | exact hz9.1 | replace hz9 := hz9.2)); done))
local macro_rules | `(tactic| k_ne) => `(tactic| (refine neN ?_; (try dsimp only); first | (with_reducible first | assumption | exact Ne.symm (by assumption) | exact Nat.ne_of_lt (by assumption) | exact Nat.ne_of_gt (by assumption) | k_extra "pr" | (refine Ne.symm ?_; k_extra "pr")) | ((repeat (with_reducible rename And (And (Ne _ _) _) _ => hz9; clear hz9)); (repeat (with_reducible rename And (Ne _ _) _ => hz9; clear hz9)); (repeat (with_reducible rename Ne _ _ => hz9; clear hz9)); omega) | ((repeat (with_reducible rename And (And (Ne _ _) _) _ => hz9; have := hz9.1; have := hz9.2; clear hz9)); (repeat (with_reducible rename And (Ne _ _) _ => hz9; have := hz9.1; have := hz9.2; clear hz9)); first | assumption | exact Ne.symm (by assumption)) | omega))
local macro_rules | `(tactic| k_lt $h:ident) => `(tactic| (replace $h := allLt_of $h; dsimp only [AllLt] at $h:ident))
local macro_rules | `(tactic| walk_at "H") => `(tactic| (k_here; (fail_if_success (with_reducible rename NoHalt => hz)); refine hold ?_))
local macro_rules | `(tactic| omega) => `(tactic| first | decide | (with_reducible exact Nat.le_trans (by assumption) (by decide)) | fail)
local macro_rules | `(tactic| walk_at "eval Name") => `(tactic| (k_here; (with_reducible rename Mark _ => hIT); k_dflt (refine' ld ?k1 ?k2 ?_; (case k1 => k_asm); (case k2 => first | assumption | exact rfl); k_whole)))
theorem off_W1 : True := by
  w_top off
  trivial
section
/-- a text, bytes, told by their numbers -/
noncomputable abbrev S (l : List Nat) : Str := ⟨l.toArray⟩
noncomputable abbrev B (l : List Nat) : Array UInt8 := (l.map Nat.toUInt8).toArray

theorem slice_any {prog : Program} {w : World} {A : Around} {E : Value → Shared → Prop} {s : Shared} {value slice : PySem.Expr} {b : Array UInt8} {t : Tok} {h₀ : Heap} {L : Addr} {m : PySem.Str → Option Value} {news : List (Addr × Obj)} {l u : Value} {lo hi : Option Int} {Q : Value → Shared → Prop}
    (hF : Fr h₀ L s.heap m) (hN : News h₀ L s.heap news) (hl : IsPart l lo) (hu : IsPart u hi) (hz : b.size ≤ 16777216)
    (h : ∀ h' t' k, Fr h₀ L h' m → News h₀ L h' news → Q (.bytes (KBy.picked b lo hi) t') { s with heap := h', toks := k })
    (hs : subscripted slice false (.bytes b t) (.ref s.heap.objs.size) = operate [.ref s.heap.objs.size, .bytes b t] (getItem (.bytes b t) (.ref s.heap.objs.size)) := by with_unfolding_all rfl)
    (ht : ∀ r, letTemporaryGo value (.bytes b t) r = pure () := by intro _; with_unfolding_all rfl) :
    wpAny (model prog w) A (subscriptTail value slice (.bytes b t) (.ref s.heap.objs.size)) Q E { s with heap := s.heap.push { cls := .type "slice", data := .fields #[l, u, .none] } } :=
  KBc.slice_K hF hN rfl hl hu (by rw [KBw.ints_length]; exact hz) (fun h' t' k F' N' _ => h h' t' k F' N') hs ht

theorem abs_if (n : Int) : (if n < 0 then -n else n) = (n.natAbs : Int) := by split <;> omega
theorem int2ap_val (n : Int) (ha : 17 ≤ n.natAbs ∧ n.natAbs ≤ 31) : KBy.picked #[65, 66, 67, 68, 69, 70, 71, 72, 73, 74, 75, 76, 77, 78, 79, 80] (some (((if n < 0 then -n else n).fdiv 16).fmod 16)) (some (((if n < 0 then -n else n).fdiv 16).fmod 16 + 1)) ++
    (KBy.picked #[65, 66, 67, 68, 69, 70, 71, 72, 73, 74, 75, 76, 77, 78, 79, 80] (some ((if n < 0 then -n else n).fmod 16)) (some ((if n < 0 then -n else n).fmod 16 + 1)) ++ #[]) = B [66, 65 + (n.natAbs - 16)] := by
  rw [abs_if]
  obtain ⟨h1, h2⟩ := ha
  generalize n.natAbs = k at *
  have : ∀ k : Fin 32, 17 ≤ k.val → KBy.picked #[65, 66, 67, 68, 69, 70, 71, 72, 73, 74, 75, 76, 77, 78, 79, 80] (some (((k.val : Int).fdiv 16).fmod 16)) (some (((k.val : Int).fdiv 16).fmod 16 + 1)) ++
    (KBy.picked #[65, 66, 67, 68, 69, 70, 71, 72, 73, 74, 75, 76, 77, 78, 79, 80] (some ((k.val : Int).fmod 16)) (some ((k.val : Int).fmod 16 + 1)) ++ #[]) = B [66, 65 + (k.val - 16)] := by decide +kernel
  exact this ⟨k, by omega⟩ h1
section
local macro_rules | `(tactic| walk_at "exec While") => `(tactic| (k_here; k_dflt (refine whl_start 3 ?_)))
local macro_rules | `(tactic| walk_at "WhlIf") => `(tactic| walk_at "H")
local macro_rules | `(tactic| walk_at "subscriptTail") => `(tactic| walk_at "H")
local macro_rules | `(tactic| walk_at "binaryOp Add bytes bytes") => `(tactic| walk_at "H")
theorem int2ap_spec (w : World) (n : Int) (ta : Tok) (ha : 17 ≤ n.natAbs ∧ n.natAbs ≤ 31) : Spec w 8 64 50 [.int n ta] [] [] (fun _ r n' => (∃ t, r = .bytes (B [66, 65 + (n.natAbs - 16)]) t) ∧ n' = []) := by
  ((refine' Spec.enter ?ho ?hcd ?hbind ?hloc ?c2 ?c3 ?c4 ?c5 ?hdd ?_); (case ho => k_is); (case hcd => k_is); (case hbind => first | exact (fun _ _ => BindsTo.of_eq rfl) | (intro _ hX; exact binds_K hX rfl (by k_is) rfl rfl rfl)); (case hloc => exact locs rfl); (case c2 => exact rfl); (case c3 => exact rfl); (case c4 => exact rfl); (case c5 => decide); (case hdd => decide); skip)
  intro loose mean mg mb dp un gd outer A₀ base g L h₁ s Q tk hB hF hX hN hT hd hu hG hQ
  (try dsimp only); (try k_fold)
  (repeat' (first | (unfold Hold; first | ((with_reducible show wpAny _ _ (binaryOp Operator.Add (Value.bytes _ _) (Value.bytes _ _)) _ _ _); first | (with_reducible ((refine KBy.add_bytes (by (try simp only [Array.size_append]); refine Nat.le_trans (Nat.add_le_add (KBc.size_picked_le _ _ _) (Nat.le_refl _)) ?_; (try simp only [Array.size_append]); first | decide +kernel | exact Nat.le_trans (Nat.add_le_add (Nat.le_refl _) (Nat.add_le_add (KBc.size_picked_le _ _ _) (Nat.le_refl _))) (by decide +kernel)) ?_); intro _ _)) | ((refine KBy.add_bytes (by (try simp only [Array.size_append]); refine Nat.le_trans (Nat.add_le_add (KBc.size_picked_le _ _ _) (Nat.le_refl _)) ?_; (try simp only [Array.size_append]); first | decide +kernel | exact Nat.le_trans (Nat.add_le_add (Nat.le_refl _) (Nat.add_le_add (KBc.size_picked_le _ _ _) (Nat.le_refl _))) (by decide +kernel)) ?_); intro _ _)) | ((with_reducible show wpAny _ _ (subscriptTail _ (Expr.Slice _ _ none _) (Value.bytes _ _) (Value.ref _)) _ _ _); first | (with_reducible ((with_reducible rename Fr _ _ _ _ => F'); (with_reducible rename News _ _ _ _ => N'); (refine slice_any (s := ⟨_, _, _, _, _⟩) F' N' (by constructor) (by constructor) (by decide +kernel) ?_); intro _ _ _ _ _)) | ((with_reducible rename Fr _ _ _ _ => F'); (with_reducible rename News _ _ _ _ => N'); (refine slice_any (s := ⟨_, _, _, _, _⟩) F' N' (by constructor) (by constructor) (by decide +kernel) ?_); intro _ _ _ _ _)) | ((with_reducible show WhlIf _ _ _); first | (with_reducible (first | (refine WhlIf.yes (by simp only [Int.fdiv_eq_ediv_of_nonneg _ (by decide : (0:Int) ≤ 16), bne_iff_ne, ne_eq]; omega) ?_) | (refine WhlIf.no (by simp only [Int.fdiv_eq_ediv_of_nonneg _ (by decide : (0:Int) ≤ 16), bne_eq_false_iff_eq]; omega) ?_))) | (first | (refine WhlIf.yes (by simp only [Int.fdiv_eq_ediv_of_nonneg _ (by decide : (0:Int) ≤ 16), bne_iff_ne, ne_eq]; omega) ?_) | (refine WhlIf.no (by simp only [Int.fdiv_eq_ediv_of_nonneg _ (by decide : (0:Int) ≤ 16), bne_eq_false_iff_eq]; omega) ?_))) | (have hz9 : NoHalt := ⟨⟩; walk1; all_goals (try clear hz9))) | (k_unfold; (try dsimp only)) | (k_end; wrow_close) | walk1 | (dsimp only; walk1) | (leave1; walk_say "STEP leave1"; try dsimp only) | fail "no step"))
  rw [int2ap_val n ha]
  exact hQ _ _ _ _ _ _ rfl (by k_asm) News.nil ⟨⟨_, rfl⟩, rfl⟩
end
theorem dec2 (j : Nat) (h : j ≤ 15) (id : String) : Builtin._codecs.runDecoder id Builtin._codecs.utf8Decoder none true (B [66, 65 + j]) 0 [] = pure ((S [66, 65 + j]).cps, 2) := by
  have : ∀ j : Fin 16, Builtin._codecs.runDecoder id Builtin._codecs.utf8Decoder none true (B [66, 65 + j.val]) 0 [] = pure ((S [66, 65 + j.val]).cps, 2) := by
    intro ⟨j, hj⟩
    rcases j with _ | _ | _ | _ | _ | _ | _ | _ | _ | _ | _ | _ | _ | _ | _ | _ | j
    all_goals first | (exfalso; omega) | kernel_rfl
  exact this ⟨j, by omega⟩
end
theorem off_W2 : True := by
  w_top off
  trivial
section
local macro_rules | `(tactic| walk_at "my pad") => `(tactic| skip)
theorem fmod16 (x : Int) : 0 ≤ x.fmod 16 ∧ x.fmod 16 ≤ 15 := by rw [Int.fmod_eq_emod_of_nonneg _ (by decide)]; omega
theorem xor16 (a b : Int) (ha : 0 ≤ a ∧ a ≤ 15) (hb : 0 ≤ b ∧ b ≤ 15) : 0 ≤ Builtin.bitXor a b ∧ Builtin.bitXor a b ≤ 15 := by
  obtain ⟨a, rfl⟩ := Int.eq_ofNat_of_zero_le ha.1
  obtain ⟨b, rfl⟩ := Int.eq_ofNat_of_zero_le hb.1
  have : ∀ a b : Fin 16, 0 ≤ Builtin.bitXor (a.val : Int) (b.val : Int) ∧ Builtin.bitXor (a.val : Int) (b.val : Int) ≤ 15 := by decide +kernel
  exact this ⟨a, by omega⟩ ⟨b, by omega⟩
theorem decode2 {prog : Program} {w : World} {A : Around} {E : Value → Shared → Prop} {s : Shared} {t : Tok} {j : Nat} {Q : Value → Shared → Prop} (hj : j ≤ 15) (h : ∀ t' k, Q (.str (S [66, 65 + j]) t') { s with toks := k }) :
    wpAny (model prog w) A (call (.builtin "bytes.decode") [.bytes (B [66, 65 + j]) t]) Q E s :=
  KBd.decode (c := Nat.toUInt8 66) (cs := [Nat.toUInt8 (65 + j)]) (n := 2) (dec2 j hj) (by show 2 ≤ 16777216; decide) h
/-- the told list of a cell: its two shares, its kind -/
noncomputable def xOf (c : Int) : Nat := (Builtin.bitXor (c.fmod 16) ((c.fdiv 16).fmod 16)).toNat
noncomputable def yOf (c : Int) : Nat := ((c.fdiv 16).fmod 16).toNat
noncomputable def kOf (c : Int) : Nat := ((c.fdiv 512).fmod 3).toNat
noncomputable def wordsN (x y : Nat) : List (List Nat) := (if 0 < x then [[66, 65 + x]] else []) ++ (if 0 < y then [[66, 65 + y]] else [])
noncomputable def spJoin : List (List Nat) → List Nat
  | [] => []
  | [a] => a
  | a :: b :: r => a ++ 32 :: spJoin (b :: r)
noncomputable def toldN (x y k : Nat) : List Nat := if wordsN x y = [] ∧ k ≠ 1 then [70, 76, 65, 71, 83] else [70, 76, 65, 71, 83, 32, 40] ++ spJoin (wordsN x y) ++ [41]
theorem txt2 (i j : Nat) : Str.ofString "FLAGS (" ++ Txt.join (Str.ofString " ") [S [66, 65 + i], S [66, 65 + j]] ++ Str.ofString ")" = S ([70, 76, 65, 71, 83, 32, 40] ++ ([66, 65 + i] ++ 32 :: [66, 65 + j]) ++ [41]) := by rfl
theorem txt1 (i : Nat) : Str.ofString "FLAGS (" ++ Txt.join (Str.ofString " ") [S [66, 65 + i]] ++ Str.ofString ")" = S ([70, 76, 65, 71, 83, 32, 40] ++ [66, 65 + i] ++ [41]) := by rfl
theorem txt0 : Str.ofString "FLAGS (" ++ Txt.join (Str.ofString " ") [] ++ Str.ofString ")" = S ([70, 76, 65, 71, 83, 32, 40] ++ [] ++ [41]) := by rfl
theorem txtF : Str.ofString "FLAGS" = S [70, 76, 65, 71, 83] := by rfl
theorem pos_abs (x : Int) (h : 0 < x) : (16 + x).natAbs - 16 = x.toNat := by
  obtain ⟨n, rfl⟩ := Int.eq_ofNat_of_zero_le (Int.le_of_lt h)
  exact Nat.add_sub_cancel_left 16 n
theorem neg_is (x : Int) : -16 - x = -(16 + x) := by rw [Int.neg_add]; rfl
theorem neg_abs (x : Int) (h : 0 < x) : (-16 - x).natAbs - 16 = x.toNat := by rw [neg_is, Int.natAbs_neg]; exact pos_abs x h
theorem absP {x : Int} (h : 0 ≤ x ∧ x ≤ 15) (p : 0 < x) : (16 + x).natAbs - 16 ≤ 15 := by rw [pos_abs x p]; exact Int.toNat_le.mpr h.2
theorem absN {x : Int} (h : 0 ≤ x ∧ x ≤ 15) (p : 0 < x) : (-16 - x).natAbs - 16 ≤ 15 := by rw [neg_is, Int.natAbs_neg]; exact absP h p
theorem absQ {x : Int} (h : 0 ≤ x ∧ x ≤ 15) (p : 0 < x) : 17 ≤ (16 + x).natAbs ∧ (16 + x).natAbs ≤ 31 := by omega
theorem absR {x : Int} (h : 0 ≤ x ∧ x ≤ 15) (p : 0 < x) : 17 ≤ (-16 - x).natAbs ∧ (-16 - x).natAbs ≤ 31 := by rw [neg_is, Int.natAbs_neg]; exact absQ h p
theorem told_xy {x y k : Int} (hx : 0 < x) (hy : 0 < y) : toldN x.toNat y.toNat k.toNat = [70, 76, 65, 71, 83, 32, 40] ++ ([66, 65 + x.toNat] ++ 32 :: [66, 65 + y.toNat]) ++ [41] := by
  have h1 : 0 < x.toNat := by omega
  have h2 : 0 < y.toNat := by omega
  simp [toldN, wordsN, h1, h2, spJoin]
theorem told_x {x y k : Int} (hx : 0 < x) (hy : ¬ 0 < y) : toldN x.toNat y.toNat k.toNat = [70, 76, 65, 71, 83, 32, 40] ++ [66, 65 + x.toNat] ++ [41] := by
  have h1 : 0 < x.toNat := by omega
  have h2 : ¬ 0 < y.toNat := by omega
  simp [toldN, wordsN, h1, h2, spJoin]
theorem told_y {x y k : Int} (hx : ¬ 0 < x) (hy : 0 < y) : toldN x.toNat y.toNat k.toNat = [70, 76, 65, 71, 83, 32, 40] ++ [66, 65 + y.toNat] ++ [41] := by
  have h1 : ¬ 0 < x.toNat := by omega
  have h2 : 0 < y.toNat := by omega
  simp [toldN, wordsN, h1, h2, spJoin]
theorem told_1 {x y k : Int} (hx : ¬ 0 < x) (hy : ¬ 0 < y) (hk : k = 1) : toldN x.toNat y.toNat k.toNat = [70, 76, 65, 71, 83, 32, 40] ++ [] ++ [41] := by
  have h1 : ¬ 0 < x.toNat := by omega
  have h2 : ¬ 0 < y.toNat := by omega
  subst hk
  simp [toldN, wordsN, h1, h2, spJoin]
theorem told_0 {x y k : Int} (hx : ¬ 0 < x) (hy : ¬ 0 < y) (hk0 : 0 ≤ k) (hk : k ≠ 1) : toldN x.toNat y.toNat k.toNat = [70, 76, 65, 71, 83] := by
  have h1 : ¬ 0 < x.toNat := by omega
  have h2 : ¬ 0 < y.toNat := by omega
  have h3 : k.toNat ≠ 1 := by omega
  simp [toldN, wordsN, h1, h2, h3]
theorem fmod3 (x : Int) : 0 ≤ x.fmod 3 ∧ x.fmod 3 ≤ 2 := by rw [Int.fmod_eq_emod_of_nonneg _ (by decide)]; omega
theorem word_ok (i : Nat) (hi : i ≤ 15) : PyData.canLay0 (.str (S [66, 65 + i])) = true := by
  have : ∀ i : Fin 16, PyData.canLay0 (.str (S [66, 65 + i.val])) = true := by decide +kernel
  exact this ⟨i, by omega⟩
section
variable {prog : Program} {w : World} {A : Around} {E : Value → Shared → Prop} {s : Shared} {h₀ : Heap} {L a b : Addr} {led : Led} {n n' : Nat} {i j : Nat} {t u : Tok} {Q : Value → Shared → Prop}
theorem eq_words1 (N : News h₀ L s.heap led) (m1 : (a, listOf #[.str (S [66, 65 + i]) t] n) ∈ led) (m2 : (b, listOf #[] n') ∈ led) (hi : i ≤ 15) (hu : A.units + 64 < cLine) (h : Q (.bool false) s) :
    wpAny (model prog w) A (compareOp .Eq (.ref a) (.ref b)) Q E s := by
  have ra : Reads s.heap (.ref a) (.list [.str (S [66, 65 + i])]) _ := Reads.list (N _ m1).1 rfl rfl (.cons (.str _ _) .nil)
  have rb : Reads s.heap (.ref b) (.list []) _ := Reads.list (N _ m2).1 rfl rfl .nil
  refine eq_dataH_same ra rb ?_ rfl hu rfl h
  show (PyData.canLay0 (.list [.str (S [66, 65 + i])]) && _) = true
  rw [show PyData.canLay0 (.list [.str (S [66, 65 + i])]) = (PyData.canLay0 (.str (S [66, 65 + i])) && true) by simp [PyData.canLay0, PyData.canLayAll0], word_ok i hi]
  rfl
theorem eq_words2 (N : News h₀ L s.heap led) (m1 : (a, listOf #[.str (S [66, 65 + i]) t, .str (S [66, 65 + j]) u] n) ∈ led) (m2 : (b, listOf #[] n') ∈ led) (hi : i ≤ 15) (hj : j ≤ 15) (hu : A.units + 64 < cLine) (h : Q (.bool false) s) :
    wpAny (model prog w) A (compareOp .Eq (.ref a) (.ref b)) Q E s := by
  have ra : Reads s.heap (.ref a) (.list [.str (S [66, 65 + i]), .str (S [66, 65 + j])]) _ := Reads.list (N _ m1).1 rfl rfl (.cons (.str _ _) (.cons (.str _ _) .nil))
  have rb : Reads s.heap (.ref b) (.list []) _ := Reads.list (N _ m2).1 rfl rfl .nil
  refine eq_dataH_same ra rb ?_ rfl hu rfl h
  show (PyData.canLay0 (.list [.str (S [66, 65 + i]), .str (S [66, 65 + j])]) && _) = true
  rw [show PyData.canLay0 (.list [.str (S [66, 65 + i]), .str (S [66, 65 + j])]) = (PyData.canLay0 (.str (S [66, 65 + i])) && (PyData.canLay0 (.str (S [66, 65 + j])) && true)) by simp [PyData.canLay0, PyData.canLayAll0], word_ok i hi, word_ok j hj]
  rfl
end
section
local macro_rules | `(tactic| walk_at "compareOp Eq ref ref") => `(tactic| walk_at "H")
local macro_rules | `(tactic| walk_at "call builtin:str.join") => `(tactic| walk_at "H")
local macro_rules | `(tactic| walk_at "call ref") => `(tactic| walk_at "H")
local macro_rules | `(tactic| walk_at "call builtin:bytes.decode") => `(tactic| walk_at "H")

theorem law_list_spec (w : World) (c : Int) (ta : Tok) (ha : 0 ≤ c ∧ c ≤ 100000) : Spec w 16 128 268 [.int c ta] [] [] (fun _ r n' => (∃ t, r = .str (S (toldN (xOf c) (yOf c) (kOf c))) t) ∧ n' = []) := by
  ((refine' Spec.enter ?ho ?hcd ?hbind ?hloc ?c2 ?c3 ?c4 ?c5 ?hdd ?_); (case ho => k_is); (case hcd => k_is); (case hbind => first | exact (fun _ _ => BindsTo.of_eq rfl) | (intro _ hX; exact binds_K hX rfl (by k_is) rfl rfl rfl)); (case hloc => exact locs rfl); (case c2 => exact rfl); (case c3 => exact rfl); (case c4 => exact rfl); (case c5 => decide); (case hdd => decide); skip)
  intro loose mean mg mb dp un gd outer A₀ base g L h₁ s Q tk hB hF hX hN hT hd hu hG hQ
  (try dsimp only); (try k_fold)
  have hx := fmod16 c
  have hy := fmod16 (c.fdiv 16)
  have hz := xor16 _ _ hx hy
  (repeat' (first | (unfold Hold; first | ((with_reducible show wpAny _ _ (call (Value.builtin "bytes.decode") [Value.bytes _ _]) _ _ _); first | (with_reducible ((refine decode2 (by (with_reducible first | exact absP (by assumption) (by assumption) | exact absN (by assumption) (by assumption) | exact absQ (by assumption) (by assumption) | exact absR (by assumption) (by assumption) | omega)) ?_); intro _ _)) | ((refine decode2 (by (with_reducible first | exact absP (by assumption) (by assumption) | exact absN (by assumption) (by assumption) | exact absQ (by assumption) (by assumption) | exact absR (by assumption) (by assumption) | omega)) ?_); intro _ _)) | ((with_reducible show wpAny _ _ (call (Value.ref 50) [Value.int _ _]) _ _ _); first | (with_reducible (k_dflt (refine' Spec.use (int2ap_spec _ _ _ ?ha) _ ?k1 ?k2 ?k3 ?k4 ?k5 ?kK ?kd ?ku (led_nil _) (led_self _) (led_none _) ?_); (case ha => (with_reducible first | exact absP (by assumption) (by assumption) | exact absN (by assumption) (by assumption) | exact absQ (by assumption) (by assumption) | exact absR (by assumption) (by assumption) | omega)); ((case k1 => first | k_asm | fail "spec: the frames below"); (case k2 => first | k_asm | k_dflt assumption | fail "spec: the frame"); (case k3 => first | k_asm | fail "spec: the written part"); (case k4 => first | k_asm | k_dflt assumption | fail "spec: the ledger"); (case k5 => first | k_asm | fail "spec: the top's facts"); (case kK => first | exact rfl | assumption | fail "spec: the caller is no def"); (case kd => first | (with_reducible exact roomN (by assumption) (by decide)) | ktr_room | fail "spec: room"); (case ku => first | (with_reducible exact roomN (by assumption) (by decide)) | ktr_units | fail "spec: units")); intro r9 h9 tk9 n9 F9 N9 _ R9; obtain ⟨⟨t9, e9⟩, e8⟩ := R9; subst e9; subst e8; (try simp only [List.nil_append, List.cons_append] at N9); (try dsimp only); (try k_fold))) | (k_dflt (refine' Spec.use (int2ap_spec _ _ _ ?ha) _ ?k1 ?k2 ?k3 ?k4 ?k5 ?kK ?kd ?ku (led_nil _) (led_self _) (led_none _) ?_); (case ha => (with_reducible first | exact absP (by assumption) (by assumption) | exact absN (by assumption) (by assumption) | exact absQ (by assumption) (by assumption) | exact absR (by assumption) (by assumption) | omega)); ((case k1 => first | k_asm | fail "spec: the frames below"); (case k2 => first | k_asm | k_dflt assumption | fail "spec: the frame"); (case k3 => first | k_asm | fail "spec: the written part"); (case k4 => first | k_asm | k_dflt assumption | fail "spec: the ledger"); (case k5 => first | k_asm | fail "spec: the top's facts"); (case kK => first | exact rfl | assumption | fail "spec: the caller is no def"); (case kd => first | (with_reducible exact roomN (by assumption) (by decide)) | ktr_room | fail "spec: room"); (case ku => first | (with_reducible exact roomN (by assumption) (by decide)) | ktr_units | fail "spec: units")); intro r9 h9 tk9 n9 F9 N9 _ R9; obtain ⟨⟨t9, e9⟩, e8⟩ := R9; subst e9; subst e8; (try simp only [List.nil_append, List.cons_append] at N9); (try dsimp only); (try k_fold))) | ((with_reducible show wpAny _ _ (call (Value.builtin "str.join") [Value.str _ _, Value.ref _]) _ _ _); first | (with_reducible (k_dflt (refine' join_list ?l ?i ?ok ?_; (case l => is_list); (case i => repeat constructor); (case ok => with_unfolding_all exact Nat.le_of_ble_eq_true rfl)); intro _ _)) | (k_dflt (refine' join_list ?l ?i ?ok ?_; (case l => is_list); (case i => repeat constructor); (case ok => with_unfolding_all exact Nat.le_of_ble_eq_true rfl)); intro _ _)) | ((with_reducible show wpAny _ _ (compareOp CmpOp.Eq (Value.ref _) (Value.ref _)) _ _ _); first | (with_reducible (k_dflt (first   | (refine' eq_words1 ?k1 ?k2 ?k3 ?k4 ?k5 ?_; (case k1 => k_asm); (case k2 => k_mem); (case k3 => k_mem); (case k4 => (with_reducible first | exact absP (by assumption) (by assumption) | exact absN (by assumption) (by assumption) | exact absQ (by assumption) (by assumption) | exact absR (by assumption) (by assumption) | omega)); (case k5 => first | (with_reducible exact roomN (by assumption) (by decide)) | ktr_units))   | (refine' eq_words2 ?k1 ?k2 ?k3 ?k4 ?k6 ?k5 ?_; (case k1 => k_asm); (case k2 => k_mem); (case k3 => k_mem); (case k4 => (with_reducible first | exact absP (by assumption) (by assumption) | exact absN (by assumption) (by assumption) | exact absQ (by assumption) (by assumption) | exact absR (by assumption) (by assumption) | omega)); (case k6 => (with_reducible first | exact absP (by assumption) (by assumption) | exact absN (by assumption) (by assumption) | exact absQ (by assumption) (by assumption) | exact absR (by assumption) (by assumption) | omega)); (case k5 => first | (with_reducible exact roomN (by assumption) (by decide)) | ktr_units))))) | (k_dflt (first   | (refine' eq_words1 ?k1 ?k2 ?k3 ?k4 ?k5 ?_; (case k1 => k_asm); (case k2 => k_mem); (case k3 => k_mem); (case k4 => (with_reducible first | exact absP (by assumption) (by assumption) | exact absN (by assumption) (by assumption) | exact absQ (by assumption) (by assumption) | exact absR (by assumption) (by assumption) | omega)); (case k5 => first | (with_reducible exact roomN (by assumption) (by decide)) | ktr_units))   | (refine' eq_words2 ?k1 ?k2 ?k3 ?k4 ?k6 ?k5 ?_; (case k1 => k_asm); (case k2 => k_mem); (case k3 => k_mem); (case k4 => (with_reducible first | exact absP (by assumption) (by assumption) | exact absN (by assumption) (by assumption) | exact absQ (by assumption) (by assumption) | exact absR (by assumption) (by assumption) | omega)); (case k6 => (with_reducible first | exact absP (by assumption) (by assumption) | exact absN (by assumption) (by assumption) | exact absQ (by assumption) (by assumption) | exact absR (by assumption) (by assumption) | omega)); (case k5 => first | (with_reducible exact roomN (by assumption) (by decide)) | ktr_units))))) | (have hz9 : NoHalt := ⟨⟩; walk1; all_goals (try clear hz9))) | (k_unfold; (try dsimp only)) | (k_end; wrow_close) | walk1 | (dsimp only; walk1) | (leave1; walk_say "STEP leave1"; try dsimp only) | fail "no step"))

  all_goals (try dsimp only)
  all_goals (refine hQ _ _ _ _ _ (Flow.ret (Value.str _ _)) rfl (by k_asm) News.nil ⟨⟨_, congrArg (fun x => Value.str x _) ?_⟩, rfl⟩)
  all_goals unfold xOf yOf kOf
  · rw [txt2, neg_abs _ (by assumption), neg_abs _ (by assumption), told_xy (by assumption) (by assumption)]
  · rw [txt2, neg_abs _ (by assumption), pos_abs _ (by assumption), told_xy (by assumption) (by assumption)]
  · rw [txt1, neg_abs _ (by assumption), told_x (by assumption) (by assumption)]
  · rw [txt2, pos_abs _ (by assumption), neg_abs _ (by assumption), told_xy (by assumption) (by assumption)]
  · rw [txt2, pos_abs _ (by assumption), pos_abs _ (by assumption), told_xy (by assumption) (by assumption)]
  · rw [txt1, pos_abs _ (by assumption), told_x (by assumption) (by assumption)]
  · rw [txt1, neg_abs _ (by assumption), told_y (by assumption) (by assumption)]
  · rw [txt1, pos_abs _ (by assumption), told_y (by assumption) (by assumption)]
  · rw [txtF, told_0 (by assumption) (by assumption) (fmod3 _).1 (by assumption)]
  · rw [txt0, told_1 (by assumption) (by assumption) (by assumption)]
end
end
theorem off_S1 : True := by
  w_top off
  trivial
section
open PySem.Builtin PySem.Builtin.Re in
section
variable {M : Model} {A : Around} {E : Value → Shared → Prop} {s : Shared}
theorem runFor_done : ∀ (n : Nat) (m : Sre.M), m.outcome.isSome = true → m.runFor n = m
  | 0, _, _ => rfl
  | n + 1, m, h => by rw [Sre.M.runFor, if_pos h]
theorem runFor_add : ∀ (a b : Nat) (m : Sre.M), m.runFor (a + b) = (m.runFor a).runFor b
  | 0, b, m => by rw [Nat.zero_add]; rfl
  | a + 1, b, m => by
    rw [show a + 1 + b = (a + b) + 1 by omega, Sre.M.runFor, Sre.M.runFor]
    by_cases h : m.outcome.isSome = true
    · rw [if_pos h, if_pos h, runFor_done b m h]
    · rw [if_neg h, if_neg h, runFor_add a b]
theorem drive {f : Sre.M} (hf : f.outcome.isSome = true) {Q : Sre.M → Shared → Prop} (h : Q f s) :
    ∀ (turns n : Nat) (m : Sre.M), m.runFor n = f → n ≤ 4 * turns → 0 < turns → wpAny M A (reDrive turns m) Q E s
  | 0, _, _, _, _, h0 => absurd h0 (Nat.lt_irrefl _)
  | t + 1, n, m, e, hn, _ => by
    show wpAny M A (if (m.runFor 4).outcome.isSome = true then pure (m.runFor 4) else do rule "sre.turn"; reDrive t (m.runFor 4)) Q E s
    by_cases h4 : (m.runFor 4).outcome.isSome = true
    · rw [if_pos h4]
      have e4 : m.runFor 4 = f := by
        by_cases hle : n ≤ 4
        · have e1 : m.runFor (n + (4 - n)) = f := by rw [runFor_add, e, runFor_done _ _ hf]
          rwa [show n + (4 - n) = 4 by omega] at e1
        · rw [show n = 4 + (n - 4) by omega, runFor_add, runFor_done _ _ h4] at e
          exact e
      rw [e4]
      exact wpAny_pure h
    · rw [if_neg h4]
      refine wpAny_bind (wpAny_rule ?_)
      by_cases hle : n ≤ 4
      · exfalso
        have e1 : m.runFor (n + (4 - n)) = f := by rw [runFor_add, e, runFor_done _ _ hf]
        rw [show n + (4 - n) = 4 by omega] at e1
        rw [e1] at h4
        exact h4 hf
      · refine drive hf h t (n - 4) _ ?_ (by omega) (by omega)
        rw [← runFor_add, show 4 + (n - 4) = n by omega, e]
theorem seenLoop {m : Sre.M} {Q : PUnit → Shared → Prop} (h : Q ⟨⟩ s) : ∀ l : List Nat, wpAny M A (forIn l PUnit.unit (fun i _ => do
      if m.seen.has i = true then rule (Sre.names.getD i "")
      pure (ForInStep.yield PUnit.unit))) Q E s
  | [] => wpAny_pure h
  | i :: l => by
    rw [List.forIn_cons]
    refine wpAny_bind ?_
    dsimp only
    by_cases hs : m.seen.has i = true
    · rw [if_pos hs]
      exact wpAny_bind (wpAny_rule (wpAny_pure (seenLoop h l)))
    · rw [if_neg hs]
      exact wpAny_pure (seenLoop h l)
theorem run_end {m f : Sre.M} {n : Nat} {Q : Option Sre.M → Shared → Prop} (e : m.runFor n = f) (hn : n ≤ 100000000) (yes : Bool) (ho : f.outcome = some (if yes then .matched else .failed)) (h : Q (if yes then some f else none) s) :
    wpAny M A (reRunToEnd m) Q E s := by
  have hf : f.outcome.isSome = true := by rw [ho]; rfl
  refine wpAny_bind (drive hf ?_ (2 ^ 64) n m e (by omega) (by decide))
  refine wpAny_bind (seenLoop ?_ _)
  rw [ho]
  cases yes
  · exact wpAny_pure h
  · exact wpAny_pure h
end
end
theorem off_E1 : True := by
  w_top off
  trivial
section
theorem two_turns {β : Type} (f : Nat → β → Sem (ForInStep β)) (b0 b1 : β) (h0 : ∀ x, f x b0 = pure (.yield b1)) (h1 : ∀ x, f x b1 = pure (.done b1)) : ∀ n : Nat, 0 < n → forIn (List.range' 0 n 1) b0 f = pure b1
  | 1, _ => by
    rw [List.range'_succ, List.forIn_cons, h0]
    rfl
  | n + 2, _ => by
    rw [List.range'_succ, List.forIn_cons, h0]
    show forIn (List.range' (0 + 1) (n + 1) 1) b1 f = _
    rw [List.range'_succ, List.forIn_cons, h1]
    rfl
theorem foldl_bytes (g : Nat → List UInt8) : ∀ (l : List Nat) (acc : Array UInt8), (∀ y ∈ l, g y = [y.toUInt8]) → l.foldl (fun acc y => acc ++ (g y).toArray) acc = acc ++ (l.map Nat.toUInt8).toArray
  | [], acc, _ => by simp
  | y :: r, acc, h => by
    rw [List.foldl_cons, foldl_bytes g r _ (fun z hz => h z (.tail _ hz)), h y (.head _)]
    simp
open PySem.Builtin PySem.Builtin._codecs in
theorem narrow_plain (id : String) (c : TextCodec) (self : Value) (l : List Nat) (hb : ∀ y ∈ l, c.bad y = false) (ho : ∀ y ∈ l, c.bytesOf y = [y.toUInt8]) (hl : l.length ≤ 16777216) (hne : l ≠ []) :
    encodeNarrow id c none self (⟨l.toArray⟩ : Str) = pure (l.map Nat.toUInt8).toArray := by
  have hline : sizeLine = 16777216 := by decide
  have hout : Array.foldl (fun acc y => acc ++ (c.bytesOf y).toArray) #[] l.toArray = (l.map Nat.toUInt8).toArray := by
    rw [← Array.foldl_toList]
    show l.foldl _ _ = _
    rw [foldl_bytes c.bytesOf l #[] ho]
    simp
  have hfind : Array.findIdx? c.bad l.toArray = none := by
    rw [Array.findIdx?_eq_none_iff]
    intro y hy
    rw [hb y (by simpa using hy)]
  cases l with
  | nil => exact absurd rfl hne
  | cons y0 r =>
    unfold encodeNarrow
    dsimp only
    rw [KPc.range_list]
    rw [two_turns _ _ ((y0 :: r).length, ((y0 :: r).map Nat.toUInt8).toArray, {}) ?h0 ?h1 _ (by simp [Str.length])]
    · rfl
    case h0 =>
      intro x
      rw [if_neg (by simp)]
      have e0 : (y0 :: r).toArray[0]? = some y0 := by simp
      simp only [e0]
      rw [if_pos (by simp [hb y0 (.head _)])]
      have e1 : ((y0 :: r).toArray.extract 0 (y0 :: r).toArray.size) = (y0 :: r).toArray := by simp
      rw [e1, hfind]
      simp only [Option.getD_none, e1, hout]
      simp
    case h1 =>
      intro x
      rw [if_neg (by simp [hline] at hl ⊢; omega)]
      have e0 : (y0 :: r).toArray[(y0 :: r).length]? = none := by simp
      simp only [e0]
noncomputable abbrev BB (l : List Nat) : Array UInt8 := (l.map Nat.toUInt8).toArray
theorem utf8_fits {l : List Nat} (hp : ∀ y ∈ l, y < 128) : (∀ y ∈ l, Builtin._codecs.utf8Codec.bad y = false) ∧ ∀ y ∈ l, Builtin._codecs.utf8Codec.bytesOf y = [y.toUInt8] := by
  refine ⟨fun y hy => ?_, fun y hy => ?_⟩
  · have := hp y hy
    show (decide (0xD800 ≤ y) && decide (y ≤ 0xDFFF)) = false
    simp; omega
  · have := hp y hy
    show Str.utf8Of y = _
    unfold Str.utf8Of
    rw [if_pos this]
theorem latin_fits {l : List Nat} (hp : ∀ y ∈ l, y < 128) : (∀ y ∈ l, Builtin._codecs.latin1Codec.bad y = false) ∧ ∀ y ∈ l, Builtin._codecs.latin1Codec.bytesOf y = [y.toUInt8] := by
  refine ⟨fun y hy => ?_, fun y hy => rfl⟩
  have := hp y hy
  show decide (y ≥ 256) = false
  simp; omega
section
open PySem.Builtin PySem.Builtin._codecs
variable {prog : Program} {w : World} {A : Around} {E : Value → Shared → Prop} {s : Shared} {t u : Tok} {l : List Nat} {Q : Value → Shared → Prop}
theorem encode_utf8 (hp : ∀ y ∈ l, y < 128) (hl : l.length ≤ 16777216) (hne : l ≠ []) (h : ∀ t' k, Q (.bytes (BB l) t') { s with toks := k }) :
    wpAny (model prog w) A (call (.builtin "str.encode") [.str (⟨l.toArray⟩ : Str) t]) Q E s := by
  refine call_meets (S := fun _ R s' => s' = s ∧ ∀ t' k, R (.ok (.ret (.bytes (BB l) t'))) { s with toks := k }) F.slot_str_encode (typeIs_str _ _ _) F.entry_str_encode (F.args_str_encode_1 _) ?_ ⟨rfl, h⟩
  refine .of_wp fun prog w A R s' hS => ?_
  obtain ⟨rfl, hr⟩ := hS
  rw [encode_tree, encodeRoad_utf8, narrow_plain _ _ _ l (utf8_fits hp).1 (utf8_fits hp).2 hl hne]
  exact wpAny_bind (wpAny_bind (wpAny_pure (wpAny_mkBytes (wpAny_pure ⟨_, rfl, hr _ _⟩) (by rw [sizeLine_eq]; simpa using hl))))
theorem encode_latin_tree (x : Str) : «str.encode» ⟨[.str x t, .str (Str.ofString "iso-8859-1") u], []⟩ = (do ret (← encodeRoad "str.encode" (.str x t) x (Str.ofString "iso-8859-1") none)) := by kernel_rfl
theorem encodeRoad_latin (id : String) (self : Value) (x : Str) (errors : Option Str) : encodeRoad id self x (Str.ofString "iso-8859-1") errors = (do mkBytes (← encodeNarrow id latin1Codec errors self x)) := by
  first | rfl | (unfold encodeRoad; rfl) | kernel_rfl
theorem encode_latin (hp : ∀ y ∈ l, y < 128) (hl : l.length ≤ 16777216) (hne : l ≠ []) (h : ∀ t' k, Q (.bytes (BB l) t') { s with toks := k }) :
    wpAny (model prog w) A (call (.builtin "str.encode") [.str (⟨l.toArray⟩ : Str) t, .str (Str.ofString "iso-8859-1") u]) Q E s := by
  refine call_meets (S := fun _ R s' => s' = s ∧ ∀ t' k, R (.ok (.ret (.bytes (BB l) t'))) { s with toks := k }) F.slot_str_encode (typeIs_str _ _ _) F.entry_str_encode (F.args_str_encode_2 _ _) ?_ ⟨rfl, h⟩
  refine .of_wp fun prog w A R s' hS => ?_
  obtain ⟨rfl, hr⟩ := hS
  rw [encode_latin_tree, encodeRoad_latin, narrow_plain _ _ _ l (latin_fits hp).1 (latin_fits hp).2 hl hne]
  exact wpAny_bind (wpAny_bind (wpAny_pure (wpAny_mkBytes (wpAny_pure ⟨_, rfl, hr _ _⟩) (by rw [sizeLine_eq]; simpa using hl))))
end
end
theorem off_S2 : True := by
  w_top off
  trivial
section
noncomputable abbrev nameCode : Array Nat := #[14, 10, 4, 1, 1, 22, 0, 31, 16, 127, 0, 13, 7, 22, 0, 31, 16, 127, 0, 1]
noncomputable abbrev valueCode : Array Nat := #[14, 14, 4, 1, 1, 9, 4294966783, 0, 0, 2147483648, 0, 0, 0, 0, 0, 13, 11, 9, 4294966783, 0, 0, 2147483648, 0, 0, 0, 0, 0, 1]
/-- plain signs alone -/
noncomputable def Plain (l : List Nat) : Prop := ∀ c ∈ l, 32 ≤ c ∧ c ≤ 126
theorem set_name (c : Nat) (h : 32 ≤ c ∧ c ≤ 126) (seen : Sre.Seen) : Sre.inSet nameCode c nameCode.size 5 true seen = .ok (false, ((seen.add 22).add 16).add 0) := by
  have h1 : (decide (0 ≤ c) && decide (c ≤ 31)) = false := by simp; omega
  have h2 : (c == 127) = false := by simp; omega
  show (if (decide (0 ≤ c) && decide (c ≤ 31)) = true then _ else (if (c == 127) = true then _ else _)) = _
  rw [h1, h2]
  rfl
theorem set_value (c : Nat) (h : 32 ≤ c ∧ c ≤ 126) (seen : Sre.Seen) : Sre.inSet valueCode c valueCode.size 5 true seen = .ok (false, (seen.add 9).add 0) := by
  have h1 : ∀ c : Fin 127, 32 ≤ c.val → (decide (c.val < 256) && (valueCode.getD (5 + (1 + c.val / 32)) 0).testBit (c.val % 32)) = false := by decide +kernel
  have h2 := h1 ⟨c, by omega⟩ h.1
  show (if (decide (c < 256) && (valueCode.getD (5 + (1 + c / 32)) 0).testBit (c % 32)) = true then _ else _) = _
  rw [h2]
  rfl
theorem admitted_none {code text : Array Nat} {f : Sre.Seen → Sre.Seen} (hset : ∀ c, 32 ≤ c ∧ c ≤ 126 → ∀ seen, Sre.inSet code c code.size 5 true seen = .ok (false, f seen)) (hp : Plain text.toList) (m : Sre.M) (hc : m.code = code) (ht : m.text = text) (hl : m.lim = text.size) :
    ∀ (fuel s : Nat) (seen : Sre.Seen), ∃ seen', m.admitted fuel s seen = .ok (none, seen')
  | 0, _, seen => ⟨seen, rfl⟩
  | fuel + 1, s, seen => by
    unfold Sre.M.admitted
    by_cases hs : s ≥ m.lim
    · exact ⟨seen, by rw [if_pos hs]⟩
    · rw [if_neg hs]
      have hlt : s < text.size := by omega
      have hg : text.getD s 0 = text[s] := by simp [Array.getD, hlt]
      have hcr : 32 ≤ text.getD s 0 ∧ text.getD s 0 ≤ 126 := by rw [hg]; exact hp _ (by simp)
      rw [hc, ht, hset _ hcr]
      exact admitted_none hset hp m hc ht hl fuel (s + 1) _
theorem search_none {code text : Array Nat} {f : Sre.Seen → Sre.Seen} (hset : ∀ c, 32 ≤ c ∧ c ≤ 126 → ∀ seen, Sre.inSet code c code.size 5 true seen = .ok (false, f seen)) (hp : Plain text.toList)
    (hfs : ((match Sre.ops[code.getD 0 0]? with | some .INFO => true | _ => false) && code.getD 2 0 == 4) = true) :
    ((Sre.forSearch code text 0 0 text.size false).runFor 1).outcome = some .failed := by
  unfold Sre.forSearch
  dsimp only
  split
  · rfl
  · have key : ∀ m : Sre.M, m.code = code → m.text = text → m.lim = text.size → m.frames = [] → m.outcome = none → ((m.attemptFrom 0 true).runFor 1).outcome = some .failed := by
      intro m hc ht hl hf ho
      unfold Sre.M.attemptFrom
      have : m.hasFirstSet = true := by unfold Sre.M.hasFirstSet; rw [hc]; exact hfs
      rw [this]
      obtain ⟨seen', e⟩ := admitted_none hset hp m hc ht hl (m.lim + 1 - 0) 0 m.seen
      rw [e]
      show (Sre.M.runFor 1 (Sre.M.say { m with seen := seen' } false)).outcome = _
      unfold Sre.M.runFor Sre.M.runFor Sre.M.say Sre.M.step
      simp [ho, hf]
    exact key _ rfl rfl rfl rfl rfl
end
theorem off_S3 : True := by
  w_top off
  trivial
section
namespace RF
theorem plain_pat : PlainAttrs "re.Pattern" :=
  ⟨⟨"object.__getattribute__", by rw [typeLookup_type, builtinLookup_eq_fast]; kernel_rfl, by decide +kernel⟩, by rw [typeLookup_type, builtinLookup_eq_fast]; kernel_rfl⟩
theorem plain_mat : PlainAttrs "re.Match" :=
  ⟨⟨"object.__getattribute__", by rw [typeLookup_type, builtinLookup_eq_fast]; kernel_rfl, by decide +kernel⟩, by rw [typeLookup_type, builtinLookup_eq_fast]; kernel_rfl⟩
theorem slot_search : Slot "re.Pattern" "search" "re.Pattern.search" :=
  .of (owner := "re.Pattern") (n := "search") (by rw [typeLookup_type, builtinLookup_eq_fast]; kernel_rfl) (by decide +kernel) (by decide +kernel) (by decide +kernel)
    (by first | exact .inl (by decide +kernel) | exact .inr (by decide +kernel)) (by rw [isSubtype_type]; kernel_rfl)
theorem type_search : typeOf (.builtin "re.Pattern.search") = pure (.type "method_descriptor") := by show builtinType _ = _; rw [builtinType_eq_fast]; kernel_rfl
theorem entry_search : entryFor table "re.Pattern.search" = some Builtin.«re.Pattern.search» := entryFor_of_tree (by kernel_rfl)
theorem args_search (a b : Value) : argsOk "re.Pattern.search" ⟨[a, b], []⟩ := by unfold argsOk; kernel_rfl
theorem slot_match : Slot "re.Pattern" "match" "re.Pattern.match" :=
  .of (owner := "re.Pattern") (n := "match") (by rw [typeLookup_type, builtinLookup_eq_fast]; kernel_rfl) (by decide +kernel) (by decide +kernel) (by decide +kernel)
    (by first | exact .inl (by decide +kernel) | exact .inr (by decide +kernel)) (by rw [isSubtype_type]; kernel_rfl)
theorem type_match : typeOf (.builtin "re.Pattern.match") = pure (.type "method_descriptor") := by show builtinType _ = _; rw [builtinType_eq_fast]; kernel_rfl
theorem entry_match : entryFor table "re.Pattern.match" = some Builtin.«re.Pattern.match» := entryFor_of_tree (by kernel_rfl)
theorem args_match (a b : Value) : argsOk "re.Pattern.match" ⟨[a, b], []⟩ := by unfold argsOk; kernel_rfl
theorem slot_sub : Slot "re.Pattern" "sub" "re.Pattern.sub" :=
  .of (owner := "re.Pattern") (n := "sub") (by rw [typeLookup_type, builtinLookup_eq_fast]; kernel_rfl) (by decide +kernel) (by decide +kernel) (by decide +kernel)
    (by first | exact .inl (by decide +kernel) | exact .inr (by decide +kernel)) (by rw [isSubtype_type]; kernel_rfl)
theorem type_sub : typeOf (.builtin "re.Pattern.sub") = pure (.type "method_descriptor") := by show builtinType _ = _; rw [builtinType_eq_fast]; kernel_rfl
theorem entry_sub : entryFor table "re.Pattern.sub" = some Builtin.«re.Pattern.sub» := entryFor_of_tree (by kernel_rfl)
theorem args_sub (a b c : Value) : argsOk "re.Pattern.sub" ⟨[a, b, c], []⟩ := by unfold argsOk; kernel_rfl
theorem entry_loop : entryFor table "re.Pattern.sub.loop" = some Builtin.«re.Pattern.sub.loop» := entryFor_of_tree (by kernel_rfl)
theorem slot_group : Slot "re.Match" "group" "re.Match.group" :=
  .of (owner := "re.Match") (n := "group") (by rw [typeLookup_type, builtinLookup_eq_fast]; kernel_rfl) (by decide +kernel) (by decide +kernel) (by decide +kernel)
    (by first | exact .inl (by decide +kernel) | exact .inr (by decide +kernel)) (by rw [isSubtype_type]; kernel_rfl)
theorem type_group : typeOf (.builtin "re.Match.group") = pure (.type "method_descriptor") := by show builtinType _ = _; rw [builtinType_eq_fast]; kernel_rfl
theorem entry_group : entryFor table "re.Match.group" = some Builtin.«re.Match.group» := entryFor_of_tree (by kernel_rfl)
theorem args_group (a b : Value) : argsOk "re.Match.group" ⟨[a, b], []⟩ := by unfold argsOk; kernel_rfl
end RF
end
theorem off_S4 : True := by
  w_top off
  trivial
section
section
open PySem.Builtin PySem.Builtin.Re
variable {M : Model} {A : Around} {E : Value → Shared → Prop} {s : Shared} {P T : Addr} {o oT : Obj} {fs items : Array Value} {n : Nat} {x : Str} {t : Tok} {code : Array Nat}
/-- a pattern object: its fields, the words of its code -/
structure PatAt (h : Heap) (P T : Addr) (fs items : Array Value) (code : Array Nat) (kind groups : Nat) : Prop where
  at_ : ∃ o, h.get? P = some o ∧ o.data = .fields fs ∧ o.cls = .type "re.Pattern" ∧ o.dict = none
  five : fs.getD 5 .none = .ref T
  six : reRawNat (fs.getD 6 .none) = kind
  two : reRawNat (fs.getD 2 .none) = groups
  tup : ∃ o n, h.get? T = some o ∧ o.data = .seq items n
  code_ : (items.map reRawOf).map (·.toNat) = code
theorem target_eq (id f : String) (v : Value) : reTarget id f ⟨[.ref P, v], []⟩ = (do
    let fs ← fieldsOf (.ref P)
    let (text, kind) ← reTextOf v
    let want := reRawNat (fs.getD 6 .none)
    if want == 0 && kind == 1 then raiseError "TypeError" "cannot use a string pattern on a bytes-like object"
    if want == 1 && kind == 0 then raiseError "TypeError" "cannot use a bytes pattern on a string-like object"
    reNoCollectionInside v kind
    let clip (i : Int) : Nat := min i.toNat text.size
    pure { pattern := .ref P, string := v, code := (← reRawItems (fs.getD 5 .none)).map (·.toNat), text, kind, groups := reRawNat (fs.getD 2 .none), pos := clip 0, lim := clip (2 ^ 63 - 1) }) := by rfl
theorem rawItems {Q : Array Int → Shared → Prop} (h : ∃ o n, s.heap.get? T = some o ∧ o.data = .seq items n) (hq : Q (items.map reRawOf) s) : wpAny M A (reRawItems (.ref T)) Q E s := by
  obtain ⟨o, n, ho, hd⟩ := h
  unfold reRawItems
  exact wpAny_bind (wpAny_seqItems ho hd (wpAny_pure hq))
theorem target_str {id f : String} {groups : Nat} {Q : ReTarget → Shared → Prop} (p : PatAt s.heap P T fs items code 0 groups) (hx : x.cps.size < 2 ^ 63)
    (h : Q { pattern := .ref P, string := .str x t, code, text := x.cps, kind := 0, groups, pos := 0, lim := x.cps.size } s) : wpAny M A (reTarget id f ⟨[.ref P, .str x t], []⟩) Q E s := by
  obtain ⟨⟨o, ho, hd, _⟩, h5, h6, h2, ht, hc⟩ := p
  rw [target_eq]
  refine wpAny_bind (wpAny_fieldsOf ho hd ?_)
  refine wpAny_bind (m := reTextOf (.str x t)) (wpAny_pure ?_)
  dsimp only
  rw [h6, h5, h2]
  refine wpAny_bind (wpAny_pure ?_)
  refine wpAny_bind (rawItems ht (wpAny_pure ?_))
  rw [hc, show min (Int.toNat 0) x.cps.size = 0 by simp, show min (Int.toNat (2 ^ 63 - 1)) x.cps.size = x.cps.size by omega]
  exact h
theorem search_call {prog : Program} {w : World} {Q : Value → Shared → Prop} (p : PatAt s.heap P T fs items code 0 0) (hx : x.cps.size < 2 ^ 63) {f : Sre.Seen → Sre.Seen} (hset : ∀ c, 32 ≤ c ∧ c ≤ 126 → ∀ seen, Sre.inSet code c code.size 5 true seen = .ok (false, f seen)) (hp : Plain x.cps.toList)
    (hfs : ((match Sre.ops[code.getD 0 0]? with | some .INFO => true | _ => false) && code.getD 2 0 == 4) = true) (h : Q .none s) :
    wpAny (model prog w) A (call (.builtin "re.Pattern.search") [.ref P, .str x t]) Q E s := by
  have hT : s.TypeIs (.ref P) "re.Pattern" := by obtain ⟨⟨o, ho, _, hc, _⟩, _⟩ := p; exact ⟨o, ho, hc⟩
  refine call_meets (S := fun _ R s' => s' = s ∧ R (.ok (.ret .none)) s') RF.slot_search hT RF.entry_search (RF.args_search _ _) ?_ ⟨rfl, h⟩
  refine .of_wp fun prog w A R s' hS => ?_
  obtain ⟨rfl, hr⟩ := hS
  show wpAny _ _ (reTarget "re.Pattern.search" "search" ⟨[.ref P, .str x t], []⟩ >>= fun t => reAnswer t (Sre.forSearch t.code t.text t.groups t.pos t.lim false)) _ _ _
  refine wpAny_bind (target_str p hx ?_)
  unfold reAnswer
  refine wpAny_bind (run_end rfl (by decide : (1 : Nat) ≤ 100000000) false (search_none hset hp hfs) ?_)
  exact wpAny_pure ⟨_, rfl, hr⟩
theorem pat_method {name : Str} {id : String} {pl : Sem Bool} {kind groups : Nat} {Q : Value × List Value → Shared → Prop} (p : PatAt s.heap P T fs items code kind groups) (slot : Slot "re.Pattern" name id) (hty : typeOf (.builtin id) = pure (.type "method_descriptor")) (h : Q (.builtin id, [.ref P]) s) :
    wpAny M A (getMethod (.ref P) name pl) Q E s := by
  obtain ⟨⟨o, ho, _, hc, hn⟩, _⟩ := p
  exact getMethod_builtin ⟨o, ho, hc⟩ RF.plain_pat slot hty (fun a e => by cases e; exact ⟨o, ho, hn⟩) h
end
end
theorem off_S5 : True := by
  w_top off
  trivial
section
section
variable {w : World} {h : Heap}
theorem pat114 (X : (hd.heap_1 w.params).In h) : ∃ T fs items, PatAt h 114 T fs items nameCode 0 0 :=
  ⟨_, _, _, ⟨_, X 114 _ rfl, rfl, rfl, rfl⟩, rfl, rfl, rfl, ⟨_, _, X 113 _ rfl, rfl⟩, by decide +kernel⟩
theorem pat119 (X : (hd.heap_1 w.params).In h) : ∃ T fs items, PatAt h 119 T fs items valueCode 0 0 :=
  ⟨_, _, _, ⟨_, X 119 _ rfl, rfl, rfl, rfl⟩, rfl, rfl, rfl, ⟨_, _, X 118 _ rfl, rfl⟩, by decide +kernel⟩
variable {prog : Program} {A : Around} {E : Value → Shared → Prop} {s : Shared} {x : Str} {t : Tok} {Q : Value → Shared → Prop}
theorem search114 (X : (hd.heap_1 w.params).In s.heap) (hp : Plain x.cps.toList) (hx : x.cps.size < 2 ^ 63) (h : Q .none s) :
    wpAny (model prog w) A (call (.builtin "re.Pattern.search") [.ref 114, .str x t]) Q E s := let ⟨_, _, _, p⟩ := pat114 X; search_call p hx set_name hp rfl h
theorem search119 (X : (hd.heap_1 w.params).In s.heap) (hp : Plain x.cps.toList) (hx : x.cps.size < 2 ^ 63) (h : Q .none s) :
    wpAny (model prog w) A (call (.builtin "re.Pattern.search") [.ref 119, .str x t]) Q E s := let ⟨_, _, _, p⟩ := pat119 X; search_call p hx set_value hp rfl h
theorem method114 {M : Model} {pl : Sem Bool} {Q : Value × List Value → Shared → Prop} (X : (hd.heap_1 w.params).In s.heap) (h : Q (.builtin "re.Pattern.search", [.ref 114]) s) : wpAny M A (getMethod (.ref 114) (Str.ofString "search") pl) Q E s :=
  let ⟨_, _, _, p⟩ := pat114 X; pat_method p RF.slot_search RF.type_search h
theorem method119 {M : Model} {pl : Sem Bool} {Q : Value × List Value → Shared → Prop} (X : (hd.heap_1 w.params).In s.heap) (h : Q (.builtin "re.Pattern.search", [.ref 119]) s) : wpAny M A (getMethod (.ref 119) (Str.ofString "search") pl) Q E s :=
  let ⟨_, _, _, p⟩ := pat119 X; pat_method p RF.slot_search RF.type_search h
end
end
theorem off_W3 : True := by
  w_top off
  trivial
section
theorem replace_free {prog : Program} {w : World} {A : Around} {E : Value → Shared → Prop} {s : Shared} {x y z : Str} {t u v : Tok} {Q : Value → Shared → Prop} (h0 : (Builtin.Str.occurrences x y 0 x.length (x.length + 1)).isEmpty = true) (h : Q (.str x t) s) :
    wpAny (model prog w) A (call (.builtin "str.replace") [.str x t, .str y u, .str z v]) Q E s := by
  refine call_gives F.slot_str_replace (typeIs_str _ _ _) F.entry_str_replace (F.args_str_replace_3 _ _ _) (gives_str_replace x y z t u v fun e => ?_) ?_
  · rw [h0] at e; cases e
  · rw [h0]; exact h
/-- a value with its quotes told apart -/
noncomputable abbrev escQ (v : Str) : Str := Txt.replace v (Str.ofString "\"") (Str.ofString "\\\"")
section
local macro_rules | `(tactic| walk_at "call builtin:str.replace") => `(tactic| walk_at "H")
theorem formatparam_spec (w : World) (v : Str) (t u : Tok) (hv : 0 < v.length ∧ v.length ≤ 1000) (he : (Txt.replace v (Str.ofString "\"") (Str.ofString "\\\"")).length ≤ 3000) (h0 : (Builtin.Str.occurrences v (Str.ofString "\\") 0 v.length (v.length + 1)).isEmpty = true) :
    Spec w 8 64 127 [.str (Str.ofString "of") t, .str v u] [] [] (fun _ r n' => (∃ t, r = .str (Str.empty ++ Str.ofString "of" ++ Str.ofString "=\"" ++ escQ v ++ Str.ofString "\"") t) ∧ n' = []) := by
  ((refine' Spec.enter ?ho ?hcd ?hbind ?hloc ?c2 ?c3 ?c4 ?c5 ?hdd ?_); (case ho => k_is); (case hcd => k_is); (case hbind => first | exact (fun _ _ => BindsTo.of_eq rfl) | (intro _ hX; exact binds_K hX rfl (by k_is) rfl rfl rfl)); (case hloc => exact locs rfl); (case c2 => exact rfl); (case c3 => exact rfl); (case c4 => exact rfl); (case c5 => decide); (case hdd => decide); skip)
  intro loose mean mg mb dp un gd outer A₀ base g L h₁ s Q tk hB hF hX hN hT hd hu hG hQ
  (try dsimp only); (try k_fold)
  (repeat' (first | (unfold Hold; first | ((with_reducible show wpAny _ _ (call (Value.builtin "str.replace") [Value.str _ _, Value.str _ _, Value.str _ _]) _ _ _); first | (with_reducible (first   | (refine replace_free (by assumption) ?_)   | (refine SC.replace (by omega) (by omega) (by omega) (by decide +kernel) (by show _ + (_ + 1) * 2 ≤ 16777216; omega) ?_; intro _ _))) | (first   | (refine replace_free (by assumption) ?_)   | (refine SC.replace (by omega) (by omega) (by omega) (by decide +kernel) (by show _ + (_ + 1) * 2 ≤ 16777216; omega) ?_; intro _ _))) | (have hz9 : NoHalt := ⟨⟩; walk1; all_goals (try clear hz9))) | (k_unfold; (try dsimp only)) | (k_end; wrow_close) | walk1 | (dsimp only; walk1) | (leave1; walk_say "STEP leave1"; try dsimp only) | fail "no step"))
  dsimp only
  exact hQ _ _ _ _ _ _ rfl (by k_asm) News.nil ⟨⟨_, rfl⟩, rfl⟩
end
end
theorem off_W4 : True := by
  w_top off
  trivial
section
local macro_rules | `(tactic| walk_at "my pad") => `(tactic| skip)
section
local macro_rules | `(tactic| walk_at "pyIter bytes") => `(tactic| walk_at "H")
theorem law_number_spec (w : World) (i j : Nat) (hi : i < 256) (hj : j < 256) (t : Tok) : Spec w 8 64 261 [.bytes (B [i, j]) t] [] [] (fun _ r n' => (∃ t, r = .int (16 * (i - 65 : Int) + j - 65) t) ∧ n' = []) := by
  have hb : KBw.bInts (B [i, j]) = [(i : Int), (j : Int)] := by
    simp only [KBw.bInts, B, List.map_cons, List.map_nil, UInt8.toNat_ofNat', Nat.toUInt8, UInt8.toNat_ofNat]
    rw [Nat.mod_eq_of_lt (by omega), Nat.mod_eq_of_lt (by omega)]
  ((refine' Spec.enter ?ho ?hcd ?hbind ?hloc ?c2 ?c3 ?c4 ?c5 ?hdd ?_); (case ho => k_is); (case hcd => k_is); (case hbind => first | exact (fun _ _ => BindsTo.of_eq rfl) | (intro _ hX; exact binds_K hX rfl (by k_is) rfl rfl rfl)); (case hloc => exact locs rfl); (case c2 => exact rfl); (case c3 => exact rfl); (case c4 => exact rfl); (case c5 => decide); (case hdd => decide); skip)
  intro loose mean mg mb dp un gd outer A₀ base g L h₁ s Q tk hB hF hX hN hT hd hu hG hQ
  (try dsimp only); (try k_fold)
  (repeat' (first | (unfold Hold; first | ((with_reducible show wpAny _ _ (pyIter (Value.bytes _ _)) (fun it s₂ => LoopAtV _ _ _ _ _ _ _ _ _ it s₂) _ _); first | (with_reducible (k_here; ((rename Fr _ _ _ _ => lF'); (rename News _ _ _ _ => lN'); (with_unfolding_all refine iter_bytesUnr (by rfl) lF' lN' (by assumption) ?_); clear lF' lN'; intro i' l1; (try k_lt l1)))) | (k_here; ((rename Fr _ _ _ _ => lF'); (rename News _ _ _ _ => lN'); (with_unfolding_all refine iter_bytesUnr (by rfl) lF' lN' (by assumption) ?_); clear lF' lN'; intro i' l1; (try k_lt l1)))) | (have hz9 : NoHalt := ⟨⟩; walk1; all_goals (try clear hz9))) | (k_unfold; (try dsimp only)) | (k_end; wrow_close) | walk1 | (dsimp only; walk1) | (leave1; walk_say "STEP leave1"; try dsimp only) | fail "no step"))
  dsimp only
  refine hQ _ _ _ _ _ _ rfl (by k_asm) News.nil ⟨⟨_, congrArg (fun x => Value.int x _) ?_⟩, rfl⟩
  omega
end
end
theorem off_W5 : True := by
  w_top off
  trivial
section
local macro_rules | `(tactic| walk_at "my pad") => `(tactic| skip)
section
local macro_rules | `(tactic| walk_at "getMethod ref") => `(tactic| walk_at "H")
local macro_rules | `(tactic| walk_at "call builtin:re.Pattern.search") => `(tactic| walk_at "H")
theorem convert_spec (w : World) (v0 : Value) (x : Str) (t : Tok) (b : Bool) (hp : Plain x.cps.toList) (hx : x.cps.size < 2 ^ 63) : Spec w 8 64 149 [v0, .str x t] [(Str.ofString "name", .bool b)] [] (fun _ r n' => r = .str x t ∧ n' = []) := by
  ((refine' Spec.enter ?ho ?hcd ?hbind ?hloc ?c2 ?c3 ?c4 ?c5 ?hdd ?_); (case ho => k_is); (case hcd => k_is); (case hbind => first | exact (fun _ _ => BindsTo.of_eq rfl) | (intro _ hX; exact binds_K hX rfl (by k_is) rfl rfl rfl)); (case hloc => exact locs rfl); (case c2 => exact rfl); (case c3 => exact rfl); (case c4 => exact rfl); (case c5 => decide); (case hdd => decide); skip)
  intro loose mean mg mb dp un gd outer A₀ base g L h₁ s Q tk hB hF hX hN hT hd hu hG hQ
  (try dsimp only); (try k_fold)
  (repeat' (first | (unfold Hold; first | ((with_reducible show wpAny _ _ (call (Value.builtin "re.Pattern.search") _ _) _ _ _); first | (with_reducible (k_dflt (first   | (refine' search114 (Frag.In.keeps ?k1 (Fr.keep ?k2)) ?k3 ?k4 ?_; (case k1 => k_asm); (case k2 => k_asm); (case k3 => assumption); (case k4 => assumption))   | (refine' search119 (Frag.In.keeps ?k1 (Fr.keep ?k2)) ?k3 ?k4 ?_; (case k1 => k_asm); (case k2 => k_asm); (case k3 => assumption); (case k4 => assumption))))) | (k_dflt (first   | (refine' search114 (Frag.In.keeps ?k1 (Fr.keep ?k2)) ?k3 ?k4 ?_; (case k1 => k_asm); (case k2 => k_asm); (case k3 => assumption); (case k4 => assumption))   | (refine' search119 (Frag.In.keeps ?k1 (Fr.keep ?k2)) ?k3 ?k4 ?_; (case k1 => k_asm); (case k2 => k_asm); (case k3 => assumption); (case k4 => assumption))))) | ((with_reducible show wpAny _ _ (getMethod _ _ _) _ _ _); first | (with_reducible (k_dflt (first   | (refine' method114 (Frag.In.keeps ?k1 (Fr.keep ?k2)) ?_; (case k1 => k_asm); (case k2 => k_asm))   | (refine' method119 (Frag.In.keeps ?k1 (Fr.keep ?k2)) ?_; (case k1 => k_asm); (case k2 => k_asm))))) | (k_dflt (first   | (refine' method114 (Frag.In.keeps ?k1 (Fr.keep ?k2)) ?_; (case k1 => k_asm); (case k2 => k_asm))   | (refine' method119 (Frag.In.keeps ?k1 (Fr.keep ?k2)) ?_; (case k1 => k_asm); (case k2 => k_asm))))) | (have hz9 : NoHalt := ⟨⟩; walk1; all_goals (try clear hz9))) | (k_unfold; (try dsimp only)) | (k_end; wrow_close) | walk1 | (dsimp only; walk1) | (leave1; walk_say "STEP leave1"; try dsimp only) | fail "no step"))
  all_goals dsimp only
  all_goals exact hQ _ _ _ _ _ _ rfl (by k_asm) News.nil ⟨rfl, rfl⟩
end
end
theorem off_W6 : True := by
  w_top off
  trivial
section
noncomputable abbrev pfText (v : Str) : Str := Str.empty ++ Str.ofString "of" ++ Str.ofString "=\"" ++ escQ v ++ Str.ofString "\""
theorem pf_len {v : Str} (h : (escQ v).length ≤ 3000) : (pfText v).length ≤ 100000 := by
  simp only [pfText, Str.length_append]
  have h1 : Str.empty.length = 0 := by decide +kernel
  have h2 : (Str.ofString "of").length = 2 := by decide +kernel
  have h3 : (Str.ofString "=\"").length = 2 := by decide +kernel
  have h4 : (Str.ofString "\"").length = 1 := by decide +kernel
  omega
theorem join_ok2 {a b : Str} (ha : a.length ≤ 100000) (hb : b.length ≤ 100000) : ([a, b].map (·.length)).sum + [a, b].length * (Str.ofString "; ").length ≤ 16777216 := by
  have h2 : (Str.ofString "; ").length = 2 := by decide +kernel
  simp only [List.map_cons, List.map_nil, List.sum_cons, List.sum_nil, List.length_cons, List.length_nil, h2]
  omega
theorem join_ok1 {a : Str} (ha : a.length ≤ 100000) : ([a].map (·.length)).sum + [a].length * (Str.ofString "; ").length ≤ 16777216 := by
  have h2 : (Str.ofString "; ").length = 2 := by decide +kernel
  simp only [List.map_cons, List.map_nil, List.sum_cons, List.sum_nil, List.length_cons, List.length_nil, h2]
  omega
theorem ledPick {g h' : Heap} {L : Addr} {p1 p2 p3 p4 p5 p6 : Addr × Obj} (N : News g L h' [p1, p2, p3, p4, p5, p6]) : News g L h' [p1, p4, p5, p6] := fun p hp => N p (by
  rcases List.mem_cons.mp hp with rfl | hp
  · exact .head _
  · exact .tail _ (.tail _ (.tail _ hp)))
/-- a header's tuple -/
noncomputable abbrev tupO (vs : List Value) : Obj := { cls := .type "tuple", data := .seq vs.toArray }
/-- the page's objects: its list, itself, its dict -/
noncomputable abbrev pageLed (P : Params) (x d l : Nat) (tk : Tok) (items : Array Value) (n : Nat) : Led :=
  [(l, listOf items n), (x, instObj 250 d), (d, dictOf [⟨PyData.keyHash P (Str.ofString "_headers"), .str (Str.ofString "_headers") tk, .ref l⟩] 1)]
noncomputable abbrev pfT (v : Str) : Str := Str.ofString "of=\"" ++ escQ v ++ Str.ofString "\""
section
local macro_rules | `(tactic| walk_at "call ref") => `(tactic| walk_at "H")
local macro_rules | `(tactic| walk_at "call builtin:str.join") => `(tactic| walk_at "H")
local macro_rules | `(tactic| walk_at "call builtin:list.append") => `(tactic| walk_at "H")
local macro_rules | `(tactic| walk_at "call builtin:str.replace") => `(tactic| walk_at "H")
local macro_rules | `(tactic| k_enter) => `(tactic| ((fail_if_success (with_reducible rename NoEnter => hz)); refine hold ?_))
theorem add_header_str (w : World) (x d l : Nat) (tk tn tt tv : Tok) (n : Nat) (items : Array Value) (nm y v : Str) (hx : d < x) (hdl : x < l) (hi : items.size ≤ 100)
    (hn : Plain nm.cps.toList) (hn' : nm.cps.size < 2 ^ 63) (hy : Plain y.cps.toList) (hy' : y.cps.size < 2 ^ 63) (hv : Plain v.cps.toList) (hv' : v.cps.size < 2 ^ 63) (hyl : y.length ≤ 100000) (hvl : 0 < v.length ∧ v.length ≤ 1000) (he : (Txt.replace v (Str.ofString "\"") (Str.ofString "\\\"")).length ≤ 3000) (h0 : (Builtin.Str.occurrences v (Str.ofString "\\") 0 v.length (v.length + 1)).isEmpty = true) :
    Spec w 24 192 247 [.ref x, .str nm tn, .str y tt] [(Str.ofString "of", .str v tv)] (pageLed w.params x d l tk items n)
      (fun H r n' => r = .none ∧ ∃ (T : Nat) (t : Tok), (∀ b o, H.get? b = some o → b < T) ∧ n' = (T, tupO [.str nm tn, .str (Txt.join (Str.ofString "; ") [y, pfT v]) t]) :: pageLed w.params x d l tk (items.push (.ref T)) (n + 1)) := by
  refine' Spec.enterKw (ex := [(Str.ofString "of", .str v tv)]) ?ho ?hcd ?hn ?hD ?hp ?hk ?hloc ?c2 ?c3 ?c4 ?c5 ?hdd ?_
  case ho => k_is
  case hcd => k_is
  case hn => exact rfl
  case hD => kp_flats
  case hp => exact rfl
  case hk => exact fun _ => rfl
  case hloc => exact fun _ => locs rfl
  case c2 => exact rfl
  case c3 => exact rfl
  case c4 => exact rfl
  case c5 => decide
  case hdd => decide
  intro loose mean mg mb dp un gd outer A₀ base g L h₁ s Q tk D o hlt hsm hs' fs' hB hF hX hN hT hd hu hG hQ
  (try k_lt hlt)
  (try dsimp only); (try k_fold)
  have hof : Plain (Str.ofString "of").cps.toList := by unfold Plain; decide +kernel
  have hof' : (Str.ofString "of").cps.size < 2 ^ 63 := by decide +kernel
  have hof'' : (Builtin.Str.occurrences (Str.ofString "of") (Str.ofString "_") 0 (Str.ofString "of").length ((Str.ofString "of").length + 1)).isEmpty = true := by decide +kernel
  (repeat' (first | (unfold Hold; first | ((with_reducible show codeAny _ _ _ _ _); first | (with_reducible (((k_dflt (refine' Spec.useC (convert_spec _ _ _ _ _ ?ha ?hb) _ ?k1 ?k2 ?k3 ?k4 ?k5 ?kK ?kd ?ku (led_nil _) (led_self _) (led_none _) ?_); (case ha => assumption); (case hb => assumption); ((case k1 => first | k_asm | fail "spec: the frames below"); (case k2 => first | k_asm | k_dflt assumption | fail "spec: the frame"); (case k3 => first | k_asm | fail "spec: the written part"); (case k4 => first | k_asm | k_dflt assumption | fail "spec: the ledger"); (case k5 => first | k_asm | fail "spec: the top's facts"); (case kK => first | exact rfl | assumption | fail "spec: the caller is no def"); (case kd => first | (with_reducible exact roomN (by assumption) (by decide)) | ktr_room | fail "spec: room"); (case ku => first | (with_reducible exact roomN (by assumption) (by decide)) | ktr_units | fail "spec: units")); intro r9 h9 tk9 n9 F9 N9 _ R9; obtain ⟨e9, e8⟩ := R9; subst e9; subst e8; (try simp only [List.nil_append, List.cons_append] at N9); (try dsimp only); (try k_fold))))) | (((k_dflt (refine' Spec.useC (convert_spec _ _ _ _ _ ?ha ?hb) _ ?k1 ?k2 ?k3 ?k4 ?k5 ?kK ?kd ?ku (led_nil _) (led_self _) (led_none _) ?_); (case ha => assumption); (case hb => assumption); ((case k1 => first | k_asm | fail "spec: the frames below"); (case k2 => first | k_asm | k_dflt assumption | fail "spec: the frame"); (case k3 => first | k_asm | fail "spec: the written part"); (case k4 => first | k_asm | k_dflt assumption | fail "spec: the ledger"); (case k5 => first | k_asm | fail "spec: the top's facts"); (case kK => first | exact rfl | assumption | fail "spec: the caller is no def"); (case kd => first | (with_reducible exact roomN (by assumption) (by decide)) | ktr_room | fail "spec: room"); (case ku => first | (with_reducible exact roomN (by assumption) (by decide)) | ktr_units | fail "spec: units")); intro r9 h9 tk9 n9 F9 N9 _ R9; obtain ⟨e9, e8⟩ := R9; subst e9; subst e8; (try simp only [List.nil_append, List.cons_append] at N9); (try dsimp only); (try k_fold)))) | (have hz9 : NoEnter := ⟨⟩; k_enter; all_goals (try clear hz9))) | ((with_reducible show wpAny _ _ (call (Value.builtin "str.replace") [Value.str _ _, Value.str _ _, Value.str _ _]) _ _ _); first | (with_reducible ((refine replace_free (by assumption) ?_))) | ((refine replace_free (by assumption) ?_))) | ((with_reducible show wpAny _ _ (call (Value.builtin _) [Value.ref _, _]) _ _ _); first | (with_reducible (k_dflt (refine' append_K ?k1 ?k2 ?k3 ?_ ?z; (case k1 => k_asm); (case k2 => k_asm); (case k3 => k_upd); (case z => exact Nat.le_trans (by assumption) (by decide : 100 ≤ sizeLine)); k_whole); intro h' F' N'; (try k_sweep))) | (k_dflt (refine' append_K ?k1 ?k2 ?k3 ?_ ?z; (case k1 => k_asm); (case k2 => k_asm); (case k3 => k_upd); (case z => exact Nat.le_trans (by assumption) (by decide : 100 ≤ sizeLine)); k_whole); intro h' F' N'; (try k_sweep))) | ((with_reducible show wpAny _ _ (call (Value.builtin "str.join") [Value.str _ _, Value.ref _]) _ _ _); first | (with_reducible (k_dflt (refine' join_list ?l ?i ?ok ?_; (case l => is_list); (case i => repeat constructor); (case ok => first | exact join_ok2 (by assumption) (pf_len (by assumption)) | exact join_ok1 (pf_len (by assumption)))); intro _ _)) | (k_dflt (refine' join_list ?l ?i ?ok ?_; (case l => is_list); (case i => repeat constructor); (case ok => first | exact join_ok2 (by assumption) (pf_len (by assumption)) | exact join_ok1 (pf_len (by assumption)))); intro _ _)) | ((with_reducible show wpAny _ _ (call (Value.ref 127) [Value.str _ _, Value.str _ _]) _ _ _); first | (with_reducible (k_dflt (refine' Spec.use (formatparam_spec _ _ _ _ ?ha ?hb ?hc) _ ?k1 ?k2 ?k3 ?k4 ?k5 ?kK ?kd ?ku (led_nil _) (led_self _) (led_none _) ?_); (case ha => assumption); (case hb => assumption); (case hc => assumption); ((case k1 => first | k_asm | fail "spec: the frames below"); (case k2 => first | k_asm | k_dflt assumption | fail "spec: the frame"); (case k3 => first | k_asm | fail "spec: the written part"); (case k4 => first | k_asm | k_dflt assumption | fail "spec: the ledger"); (case k5 => first | k_asm | fail "spec: the top's facts"); (case kK => first | exact rfl | assumption | fail "spec: the caller is no def"); (case kd => first | (with_reducible exact roomN (by assumption) (by decide)) | ktr_room | fail "spec: room"); (case ku => first | (with_reducible exact roomN (by assumption) (by decide)) | ktr_units | fail "spec: units")); intro r9 h9 tk9 n9 F9 N9 _ R9; obtain ⟨⟨t9, e9⟩, e8⟩ := R9; subst e9; subst e8; (try simp only [List.nil_append, List.cons_append] at N9); (try dsimp only); (try k_fold))) | (k_dflt (refine' Spec.use (formatparam_spec _ _ _ _ ?ha ?hb ?hc) _ ?k1 ?k2 ?k3 ?k4 ?k5 ?kK ?kd ?ku (led_nil _) (led_self _) (led_none _) ?_); (case ha => assumption); (case hb => assumption); (case hc => assumption); ((case k1 => first | k_asm | fail "spec: the frames below"); (case k2 => first | k_asm | k_dflt assumption | fail "spec: the frame"); (case k3 => first | k_asm | fail "spec: the written part"); (case k4 => first | k_asm | k_dflt assumption | fail "spec: the ledger"); (case k5 => first | k_asm | fail "spec: the top's facts"); (case kK => first | exact rfl | assumption | fail "spec: the caller is no def"); (case kd => first | (with_reducible exact roomN (by assumption) (by decide)) | ktr_room | fail "spec: room"); (case ku => first | (with_reducible exact roomN (by assumption) (by decide)) | ktr_units | fail "spec: units")); intro r9 h9 tk9 n9 F9 N9 _ R9; obtain ⟨⟨t9, e9⟩, e8⟩ := R9; subst e9; subst e8; (try simp only [List.nil_append, List.cons_append] at N9); (try dsimp only); (try k_fold))) | (have hz9 : NoHalt := ⟨⟩; walk1; all_goals (try clear hz9))) | (k_unfold; (try dsimp only)) | (k_end; wrow_close) | walk1 | (dsimp only; walk1) | (leave1; walk_say "STEP leave1"; try dsimp only) | fail "no step"))
  (with_reducible rename News _ _ _ (_ :: _) => NN)
  refine hQ _ _ _ _ _ Flow.next rfl (by k_asm) (ledPick NN) ⟨rfl, _, _, fun b o e => ?_, rfl⟩
  exact Nat.lt_trans (hG b o e) (by omega)
theorem add_header_none (w : World) (x d l : Nat) (tk tn tv : Tok) (n : Nat) (items : Array Value) (nm v : Str) (hx : d < x) (hdl : x < l) (hi : items.size ≤ 100)
    (hn : Plain nm.cps.toList) (hn' : nm.cps.size < 2 ^ 63) (hv : Plain v.cps.toList) (hv' : v.cps.size < 2 ^ 63) (hvl : 0 < v.length ∧ v.length ≤ 1000) (he : (Txt.replace v (Str.ofString "\"") (Str.ofString "\\\"")).length ≤ 3000) (h0 : (Builtin.Str.occurrences v (Str.ofString "\\") 0 v.length (v.length + 1)).isEmpty = true) :
    Spec w 24 192 247 [.ref x, .str nm tn, .none] [(Str.ofString "of", .str v tv)] (pageLed w.params x d l tk items n)
      (fun H r n' => r = .none ∧ ∃ (T : Nat) (t : Tok), (∀ b o, H.get? b = some o → b < T) ∧ n' = (T, tupO [.str nm tn, .str (Txt.join (Str.ofString "; ") [pfT v]) t]) :: pageLed w.params x d l tk (items.push (.ref T)) (n + 1)) := by
  refine' Spec.enterKw (ex := [(Str.ofString "of", .str v tv)]) ?ho ?hcd ?hn ?hD ?hp ?hk ?hloc ?c2 ?c3 ?c4 ?c5 ?hdd ?_
  case ho => k_is
  case hcd => k_is
  case hn => exact rfl
  case hD => kp_flats
  case hp => exact rfl
  case hk => exact fun _ => rfl
  case hloc => exact fun _ => locs rfl
  case c2 => exact rfl
  case c3 => exact rfl
  case c4 => exact rfl
  case c5 => decide
  case hdd => decide
  intro loose mean mg mb dp un gd outer A₀ base g L h₁ s Q tk D o hlt hsm hs' fs' hB hF hX hN hT hd hu hG hQ
  (try k_lt hlt)
  (try dsimp only); (try k_fold)
  have hof : Plain (Str.ofString "of").cps.toList := by unfold Plain; decide +kernel
  have hof' : (Str.ofString "of").cps.size < 2 ^ 63 := by decide +kernel
  have hof'' : (Builtin.Str.occurrences (Str.ofString "of") (Str.ofString "_") 0 (Str.ofString "of").length ((Str.ofString "of").length + 1)).isEmpty = true := by decide +kernel
  (repeat' (first | (unfold Hold; first | ((with_reducible show codeAny _ _ _ _ _); first | (with_reducible (((k_dflt (refine' Spec.useC (convert_spec _ _ _ _ _ ?ha ?hb) _ ?k1 ?k2 ?k3 ?k4 ?k5 ?kK ?kd ?ku (led_nil _) (led_self _) (led_none _) ?_); (case ha => assumption); (case hb => assumption); ((case k1 => first | k_asm | fail "spec: the frames below"); (case k2 => first | k_asm | k_dflt assumption | fail "spec: the frame"); (case k3 => first | k_asm | fail "spec: the written part"); (case k4 => first | k_asm | k_dflt assumption | fail "spec: the ledger"); (case k5 => first | k_asm | fail "spec: the top's facts"); (case kK => first | exact rfl | assumption | fail "spec: the caller is no def"); (case kd => first | (with_reducible exact roomN (by assumption) (by decide)) | ktr_room | fail "spec: room"); (case ku => first | (with_reducible exact roomN (by assumption) (by decide)) | ktr_units | fail "spec: units")); intro r9 h9 tk9 n9 F9 N9 _ R9; obtain ⟨e9, e8⟩ := R9; subst e9; subst e8; (try simp only [List.nil_append, List.cons_append] at N9); (try dsimp only); (try k_fold))))) | (((k_dflt (refine' Spec.useC (convert_spec _ _ _ _ _ ?ha ?hb) _ ?k1 ?k2 ?k3 ?k4 ?k5 ?kK ?kd ?ku (led_nil _) (led_self _) (led_none _) ?_); (case ha => assumption); (case hb => assumption); ((case k1 => first | k_asm | fail "spec: the frames below"); (case k2 => first | k_asm | k_dflt assumption | fail "spec: the frame"); (case k3 => first | k_asm | fail "spec: the written part"); (case k4 => first | k_asm | k_dflt assumption | fail "spec: the ledger"); (case k5 => first | k_asm | fail "spec: the top's facts"); (case kK => first | exact rfl | assumption | fail "spec: the caller is no def"); (case kd => first | (with_reducible exact roomN (by assumption) (by decide)) | ktr_room | fail "spec: room"); (case ku => first | (with_reducible exact roomN (by assumption) (by decide)) | ktr_units | fail "spec: units")); intro r9 h9 tk9 n9 F9 N9 _ R9; obtain ⟨e9, e8⟩ := R9; subst e9; subst e8; (try simp only [List.nil_append, List.cons_append] at N9); (try dsimp only); (try k_fold)))) | (have hz9 : NoEnter := ⟨⟩; k_enter; all_goals (try clear hz9))) | ((with_reducible show wpAny _ _ (call (Value.builtin "str.replace") [Value.str _ _, Value.str _ _, Value.str _ _]) _ _ _); first | (with_reducible ((refine replace_free (by assumption) ?_))) | ((refine replace_free (by assumption) ?_))) | ((with_reducible show wpAny _ _ (call (Value.builtin _) [Value.ref _, _]) _ _ _); first | (with_reducible (k_dflt (refine' append_K ?k1 ?k2 ?k3 ?_ ?z; (case k1 => k_asm); (case k2 => k_asm); (case k3 => k_upd); (case z => exact Nat.le_trans (by assumption) (by decide : 100 ≤ sizeLine)); k_whole); intro h' F' N'; (try k_sweep))) | (k_dflt (refine' append_K ?k1 ?k2 ?k3 ?_ ?z; (case k1 => k_asm); (case k2 => k_asm); (case k3 => k_upd); (case z => exact Nat.le_trans (by assumption) (by decide : 100 ≤ sizeLine)); k_whole); intro h' F' N'; (try k_sweep))) | ((with_reducible show wpAny _ _ (call (Value.builtin "str.join") [Value.str _ _, Value.ref _]) _ _ _); first | (with_reducible (k_dflt (refine' join_list ?l ?i ?ok ?_; (case l => is_list); (case i => repeat constructor); (case ok => first | exact join_ok2 (by assumption) (pf_len (by assumption)) | exact join_ok1 (pf_len (by assumption)))); intro _ _)) | (k_dflt (refine' join_list ?l ?i ?ok ?_; (case l => is_list); (case i => repeat constructor); (case ok => first | exact join_ok2 (by assumption) (pf_len (by assumption)) | exact join_ok1 (pf_len (by assumption)))); intro _ _)) | ((with_reducible show wpAny _ _ (call (Value.ref 127) [Value.str _ _, Value.str _ _]) _ _ _); first | (with_reducible (k_dflt (refine' Spec.use (formatparam_spec _ _ _ _ ?ha ?hb ?hc) _ ?k1 ?k2 ?k3 ?k4 ?k5 ?kK ?kd ?ku (led_nil _) (led_self _) (led_none _) ?_); (case ha => assumption); (case hb => assumption); (case hc => assumption); ((case k1 => first | k_asm | fail "spec: the frames below"); (case k2 => first | k_asm | k_dflt assumption | fail "spec: the frame"); (case k3 => first | k_asm | fail "spec: the written part"); (case k4 => first | k_asm | k_dflt assumption | fail "spec: the ledger"); (case k5 => first | k_asm | fail "spec: the top's facts"); (case kK => first | exact rfl | assumption | fail "spec: the caller is no def"); (case kd => first | (with_reducible exact roomN (by assumption) (by decide)) | ktr_room | fail "spec: room"); (case ku => first | (with_reducible exact roomN (by assumption) (by decide)) | ktr_units | fail "spec: units")); intro r9 h9 tk9 n9 F9 N9 _ R9; obtain ⟨⟨t9, e9⟩, e8⟩ := R9; subst e9; subst e8; (try simp only [List.nil_append, List.cons_append] at N9); (try dsimp only); (try k_fold))) | (k_dflt (refine' Spec.use (formatparam_spec _ _ _ _ ?ha ?hb ?hc) _ ?k1 ?k2 ?k3 ?k4 ?k5 ?kK ?kd ?ku (led_nil _) (led_self _) (led_none _) ?_); (case ha => assumption); (case hb => assumption); (case hc => assumption); ((case k1 => first | k_asm | fail "spec: the frames below"); (case k2 => first | k_asm | k_dflt assumption | fail "spec: the frame"); (case k3 => first | k_asm | fail "spec: the written part"); (case k4 => first | k_asm | k_dflt assumption | fail "spec: the ledger"); (case k5 => first | k_asm | fail "spec: the top's facts"); (case kK => first | exact rfl | assumption | fail "spec: the caller is no def"); (case kd => first | (with_reducible exact roomN (by assumption) (by decide)) | ktr_room | fail "spec: room"); (case ku => first | (with_reducible exact roomN (by assumption) (by decide)) | ktr_units | fail "spec: units")); intro r9 h9 tk9 n9 F9 N9 _ R9; obtain ⟨⟨t9, e9⟩, e8⟩ := R9; subst e9; subst e8; (try simp only [List.nil_append, List.cons_append] at N9); (try dsimp only); (try k_fold))) | (have hz9 : NoHalt := ⟨⟩; walk1; all_goals (try clear hz9))) | (k_unfold; (try dsimp only)) | (k_end; wrow_close) | walk1 | (dsimp only; walk1) | (leave1; walk_say "STEP leave1"; try dsimp only) | fail "no step"))
  (with_reducible rename News _ _ _ (_ :: _) => NN)
  refine hQ _ _ _ _ _ Flow.next rfl (by k_asm) (ledPick NN) ⟨rfl, _, _, fun b o e => ?_, rfl⟩
  exact Nat.lt_trans (hG b o e) (by omega)
end
end
theorem off_W7a : True := by
  w_top off
  trivial
section
theorem S_app (a b : List Nat) : S a ++ S b = S (a ++ b) := by
  show Str.mk (a.toArray ++ b.toArray) = _
  simp
theorem join2 (s a b : Str) : Txt.join s [a, b] = a ++ s ++ b := rfl
theorem join1 (s a : Str) : Txt.join s [a] = a := rfl
theorem esc_lit : escQ (Str.ofString "a)\"") = S [97, 41, 92, 34] := by decide +kernel
theorem lit_semi : Str.ofString "; " = S [59, 32] := rfl
theorem lit_of : Str.ofString "of=\"" = S [111, 102, 61, 34] := rfl
theorem lit_q : Str.ofString "\"" = S [34] := rfl
theorem lit_bp : Str.ofString "FLAGS (BP)" = S [70, 76, 65, 71, 83, 32, 40, 66, 80, 41] := rfl
noncomputable def dotsN (k : Nat) : List Nat := List.replicate k 46
noncomputable def valN (t : List Nat) (kd : Nat) : List Nat :=
  if kd = 0 then t ++ [59, 32, 111, 102, 61, 34, 97, 41, 92, 34, 34]
  else if kd = 1 then [70, 76, 65, 71, 83, 32, 40, 66, 80, 41, 59, 32, 111, 102, 61, 34] ++ t ++ [34]
  else [111, 102, 61, 34] ++ t ++ [34]
/-- what is known of a told list -/
structure ToldOk (T : List Nat) : Prop where
  plain : Plain (S T).cps.toList
  size : (S T).cps.size < 2 ^ 63
  len : 0 < (S T).length ∧ (S T).length ≤ 1000
  occ : (Builtin.Str.occurrences (S T) (Str.ofString "\\") 0 (S T).length ((S T).length + 1)).isEmpty = true
  esc : escQ (S T) = S T
structure PageIs (P : Params) (x d l : Nat) (tk : Tok) (items : Array Value) (n : Nat) : Prop where
  hx : d < x
  hdl : x < l
  hi : items.size ≤ 100
noncomputable abbrev InTurn : Prop := Mark 0
section
variable {w : World} {loose : List Str} {mean : ExcName → Option Value} {mg mb : Str → Option Value} {dp un : Nat} {gd : Option (List Code)} {cn : Str} {cs : Scope} {a : Addr} {ccd : Value} {cl : List (Str × Addr)} {outer : List Env} {A₀ : Around} {base h₀ : Heap} {L : Addr} {m : Str → Option Value} {s : Shared} {R : Result → Shared → Prop} {led rest : Led}
  {x d l : Nat} {tk tn tt tv : Tok} {items : Array Value} {n : Nat} {nm y v : Str}
theorem header_str (pg : PageIs w.params x d l tk items n) (hn : Plain nm.cps.toList) (hn' : nm.cps.size < 2 ^ 63) (hy : Plain y.cps.toList) (hy' : y.cps.size < 2 ^ 63) (hv : Plain v.cps.toList) (hv' : v.cps.size < 2 ^ 63) (hyl : y.length ≤ 100000) (hvl : 0 < v.length ∧ v.length ≤ 1000) (he : (escQ v).length ≤ 3000)
    (ho : (Builtin.Str.occurrences v (Str.ofString "\\") 0 v.length (v.length + 1)).isEmpty = true)
    (B : Below A₀ base outer h₀) (F : Fr h₀ L s.heap m) (X : (hd.heap_1 w.params).In h₀) (N : News h₀ L s.heap led) (T : Top view loose mean mg mb h₀) (hk : cs.kind = .function)
    (hd : dp + 24 < recursionLimit) (hu : un + 192 < cLine) (h1 : ∀ p ∈ pageLed w.params x d l tk items n, p ∈ led) (h3 : ∀ p ∈ rest, p.1 ∉ (pageLed w.params x d l tk items n).map (·.1)) (h2 : ∀ p ∈ rest, p ∈ led)
    (hR : ∀ h' tk' (Tp : Nat) t, Fr h₀ L h' m → News h₀ L h' ((Tp, tupO [.str nm tn, .str (Txt.join (Str.ofString "; ") [y, pfT v]) t]) :: (pageLed w.params x d l tk (items.push (.ref Tp)) (n + 1) ++ rest)) → (∀ p ∈ rest, p.1 < Tp) → l < Tp → R (.ok (.ret .none)) { s with heap := h', toks := tk' }) :
    codeAny (model Challenge.rw_wj0050_01.row.prog w) (ktrTop dp un gd cn cs L a ccd cl outer) (.call (.ref 247) ⟨[.ref x, .str nm tn, .str y tt], [(Str.ofString "of", .str v tv)]⟩) R s := by
  refine Spec.useC (add_header_str w x d l tk tn tt tv n items nm y v pg.hx pg.hdl pg.hi hn hn' hy hy' hv hv' hyl hvl he ho) rest B F X N T hk hd hu h1 h2 h3 fun r h' tk' news' F' N' _ R' => ?_
  obtain ⟨rfl, Tp, t, hf, rfl⟩ := R'
  exact hR h' tk' Tp t F' N' (fun p hp => hf _ _ (N p (h2 p hp)).1) (hf _ _ (N _ (h1 _ (.head _))).1)
theorem header_none (pg : PageIs w.params x d l tk items n) (hn : Plain nm.cps.toList) (hn' : nm.cps.size < 2 ^ 63) (hv : Plain v.cps.toList) (hv' : v.cps.size < 2 ^ 63) (hvl : 0 < v.length ∧ v.length ≤ 1000) (he : (escQ v).length ≤ 3000)
    (ho : (Builtin.Str.occurrences v (Str.ofString "\\") 0 v.length (v.length + 1)).isEmpty = true)
    (B : Below A₀ base outer h₀) (F : Fr h₀ L s.heap m) (X : (hd.heap_1 w.params).In h₀) (N : News h₀ L s.heap led) (T : Top view loose mean mg mb h₀) (hk : cs.kind = .function)
    (hd : dp + 24 < recursionLimit) (hu : un + 192 < cLine) (h1 : ∀ p ∈ pageLed w.params x d l tk items n, p ∈ led) (h3 : ∀ p ∈ rest, p.1 ∉ (pageLed w.params x d l tk items n).map (·.1)) (h2 : ∀ p ∈ rest, p ∈ led)
    (hR : ∀ h' tk' (Tp : Nat) t, Fr h₀ L h' m → News h₀ L h' ((Tp, tupO [.str nm tn, .str (Txt.join (Str.ofString "; ") [pfT v]) t]) :: (pageLed w.params x d l tk (items.push (.ref Tp)) (n + 1) ++ rest)) → (∀ p ∈ rest, p.1 < Tp) → l < Tp → R (.ok (.ret .none)) { s with heap := h', toks := tk' }) :
    codeAny (model Challenge.rw_wj0050_01.row.prog w) (ktrTop dp un gd cn cs L a ccd cl outer) (.call (.ref 247) ⟨[.ref x, .str nm tn, .none], [(Str.ofString "of", .str v tv)]⟩) R s := by
  refine Spec.useC (add_header_none w x d l tk tn tv n items nm v pg.hx pg.hdl pg.hi hn hn' hv hv' hvl he ho) rest B F X N T hk hd hu h1 h2 h3 fun r h' tk' news' F' N' _ R' => ?_
  obtain ⟨rfl, Tp, t, hf, rfl⟩ := R'
  exact hR h' tk' Tp t F' N' (fun p hp => hf _ _ (N p (h2 p hp)).1) (hf _ _ (N _ (h1 _ (.head _))).1)
end
theorem name_plain (k : Int) (h0 : 0 ≤ k) (h3 : k ≤ 3) : Plain (Txt.mul (Str.ofString ".") k ++ Str.ofString "t").cps.toList := by
  have : ∀ k : Fin 4, ∀ c ∈ (Txt.mul (Str.ofString ".") (k.val : Int) ++ Str.ofString "t").cps.toList, 32 ≤ c ∧ c ≤ 126 := by decide +kernel
  have e : ((k.toNat : Nat) : Int) = k := Int.toNat_of_nonneg h0
  rw [← e]
  exact this ⟨k.toNat, by omega⟩
theorem name_size (k : Int) (h0 : 0 ≤ k) (h3 : k ≤ 3) : (Txt.mul (Str.ofString ".") k ++ Str.ofString "t").cps.size < 2 ^ 63 := by
  have : ∀ k : Fin 4, (Txt.mul (Str.ofString ".") (k.val : Int) ++ Str.ofString "t").cps.size < 2 ^ 63 := by decide +kernel
  have e : ((k.toNat : Nat) : Int) = k := Int.toNat_of_nonneg h0
  rw [← e]
  exact this ⟨k.toNat, by omega⟩
theorem name_is (k : Int) (h0 : 0 ≤ k) (h3 : k ≤ 3) : Txt.mul (Str.ofString ".") k ++ Str.ofString "t" = S (dotsN k.toNat ++ [116]) := by
  have : ∀ k : Fin 4, Txt.mul (Str.ofString ".") (k.val : Int) ++ Str.ofString "t" = S (List.replicate k.val 46 ++ [116]) := by decide +kernel
  have e : ((k.toNat : Nat) : Int) = k := Int.toNat_of_nonneg h0
  rw [← e]
  exact this ⟨k.toNat, by omega⟩
theorem val0 {T : List Nat} {kd : Int} (h : kd = 0) : Txt.join (Str.ofString "; ") [S T, pfT (Str.ofString "a)\"")] = S (valN T kd.toNat) := by
  subst h
  rw [join2]
  show S T ++ _ ++ (_ ++ escQ (Str.ofString "a)\"") ++ _) = _
  rw [esc_lit, lit_semi, lit_of, lit_q]
  simp only [S_app]
  simp [valN]
theorem val1 {T : List Nat} {kd : Int} (hT : escQ (S T) = S T) (h : kd = 1) : Txt.join (Str.ofString "; ") [Str.ofString "FLAGS (BP)", pfT (S T)] = S (valN T kd.toNat) := by
  subst h
  rw [join2]
  show _ ++ _ ++ (_ ++ escQ (S T) ++ _) = _
  rw [hT, lit_semi, lit_of, lit_q, lit_bp]
  simp only [S_app]
  simp [valN]
theorem val2 {T : List Nat} {kd : Int} (hT : escQ (S T) = S T) (h0 : kd ≠ 0) (h1 : kd ≠ 1) (h2 : 0 ≤ kd) : Txt.join (Str.ofString "; ") [pfT (S T)] = S (valN T kd.toNat) := by
  rw [join1]
  show _ ++ escQ (S T) ++ _ = _
  rw [hT, lit_of, lit_q]
  have h3 : kd.toNat ≠ 0 := by omega
  have h4 : kd.toNat ≠ 1 := by omega
  simp only [S_app]
  simp [valN, h3, h4]
theorem due0 {T : List Nat} {kd : Int} (Hs : Str) (h : kd = 0) : Hs ++ S T ++ Str.ofString "; of=\"a)\\\"\"" = Hs ++ S (valN T kd.toNat) := by
  subst h
  rw [Str.append_assoc, show Str.ofString "; of=\"a)\\\"\"" = S [59, 32, 111, 102, 61, 34, 97, 41, 92, 34, 34] from rfl, S_app T _]
  simp [valN]
theorem due1 {T : List Nat} {kd : Int} (Hs : Str) (h : kd = 1) : Hs ++ Str.ofString "FLAGS (BP); of=\"" ++ S T ++ Str.ofString "\"" = Hs ++ S (valN T kd.toNat) := by
  subst h
  rw [Str.append_assoc, Str.append_assoc, lit_q, show Str.ofString "FLAGS (BP); of=\"" = S [70, 76, 65, 71, 83, 32, 40, 66, 80, 41, 59, 32, 111, 102, 61, 34] from rfl]
  simp only [S_app]
  simp [valN]
theorem due2 {T : List Nat} {kd : Int} (Hs : Str) (h0 : kd ≠ 0) (h1 : kd ≠ 1) (h2 : 0 ≤ kd) : Hs ++ Str.ofString "of=\"" ++ S T ++ Str.ofString "\"" = Hs ++ S (valN T kd.toNat) := by
  have h3 : kd.toNat ≠ 0 := by omega
  have h4 : kd.toNat ≠ 1 := by omega
  rw [Str.append_assoc, Str.append_assoc, lit_q, lit_of]
  simp only [S_app]
  simp [valN, h3, h4]
theorem ledTurn {g h' : Heap} {L : Addr} {pT pl px pd pdl q1 q2 q3 q4 q5 q6 : Addr × Obj} (N : News g L h' [pT, pl, px, pd, pdl, q1, q2, q3, q4, q5, q6]) : News g L h' (pT :: pdl :: [pl, px, pd] ++ [q1, q2, q3, q4, q5, q6]) := fun p hp => N p (by
  simp only [List.mem_cons, List.not_mem_nil, or_false, List.cons_append, List.nil_append] at hp ⊢
  rcases hp with h | h | h | h | h | h | h | h | h | h | h <;> simp [h])
theorem str_eq {a b : Str} (h : a = b) (t : Tok) : Value.str a t = Value.str b t := by rw [h]
/-- the ledgers ahead of the four turns -/
theorem ledA {g h' : Heap} {L : Addr} {pI pS pdl pl px pd pc : Addr × Obj} (N : News g L h' [pI, pS, pdl, pl, px, pd, pc]) : News g L h' (pdl :: [pl, px, pd] ++ [pI, pS, pc, pc, pc, pc]) := fun p hp => N p (by
  simp only [List.mem_cons, List.not_mem_nil, or_false, List.cons_append, List.nil_append] at hp ⊢
  rcases hp with h | h | h | h | h | h | h | h | h | h <;> simp [h])
theorem ledB {g h' : Heap} {L : Addr} {pI pT1 pdl pl px pd pS pc q1 q2 q3 : Addr × Obj} (N : News g L h' [pI, pT1, pdl, pl, px, pd, pS, pc, q1, q2, q3]) : News g L h' (pdl :: [pl, px, pd] ++ [pI, pS, pc, pT1, pT1, pT1]) := fun p hp => N p (by
  simp only [List.mem_cons, List.not_mem_nil, or_false, List.cons_append, List.nil_append] at hp ⊢
  rcases hp with h | h | h | h | h | h | h | h | h | h <;> simp [h])
theorem ledC {g h' : Heap} {L : Addr} {pI pT2 pdl pl px pd pS pc pT1 q1 q2 : Addr × Obj} (N : News g L h' [pI, pT2, pdl, pl, px, pd, pS, pc, pT1, q1, q2]) : News g L h' (pdl :: [pl, px, pd] ++ [pI, pS, pc, pT1, pT2, pT2]) := fun p hp => N p (by
  simp only [List.mem_cons, List.not_mem_nil, or_false, List.cons_append, List.nil_append] at hp ⊢
  rcases hp with h | h | h | h | h | h | h | h | h | h <;> simp [h])
theorem ledD {g h' : Heap} {L : Addr} {pI pT3 pdl pl px pd pS pc pT1 pT2 q1 : Addr × Obj} (N : News g L h' [pI, pT3, pdl, pl, px, pd, pS, pc, pT1, pT2, q1]) : News g L h' (pdl :: [pl, px, pd] ++ [pI, pS, pc, pT1, pT2, pT3]) := fun p hp => N p (by
  simp only [List.mem_cons, List.not_mem_nil, or_false, List.cons_append, List.nil_append] at hp ⊢
  rcases hp with h | h | h | h | h | h | h | h | h | h <;> simp [h])
theorem head_len (k : Int) (h0 : 0 ≤ k) (h3 : k ≤ 10) : (Txt.mul (Str.ofString ".") k ++ Str.ofString "t: ").length ≤ 1000 := by
  have : ∀ k : Fin 11, (Txt.mul (Str.ofString ".") (k.val : Int) ++ Str.ofString "t: ").length ≤ 1000 := by decide +kernel
  have e : ((k.toNat : Nat) : Int) = k := Int.toNat_of_nonneg h0
  rw [← e]
  exact this ⟨k.toNat, by omega⟩
theorem occ_none (x : Str) (c : Nat) (h : c ∉ x.cps.toList) (limit : Nat) (hl : 1 ≤ limit) : (Builtin.Str.occurrences x ⟨#[c]⟩ 0 x.length limit).isEmpty = true := by
  rcases StrLaws.occ_head_from x ⟨#[c]⟩ 0 limit hl with ⟨e, _⟩ | ⟨i, r, _, _, ha, _⟩
  · rw [e]; rfl
  · exact absurd (List.mem_iff_getElem?.mpr ⟨i, (StrLaws.subAt_one x c i).mp ha⟩) h
theorem esc_none (x : Str) (h : 34 ∉ x.cps.toList) : escQ x = x := by
  have e := occ_none x 34 h (x.length + 1) (by omega)
  show (if ((Builtin.Str.occurrences x ⟨#[34]⟩ 0 x.length (x.length + 1)).isEmpty || _) = true then x else _) = x
  rw [e]
  rfl
theorem told_signs (x y k : Nat) (hx : x ≤ 15) (hy : y ≤ 15) (hk : k ≤ 2) : ∀ c ∈ toldN x y k, 32 ≤ c ∧ c ≤ 126 ∧ c ≠ 34 ∧ c ≠ 92 ∧ c ≠ 10 ∧ c ≠ 13 := by
  have a1 : ∀ x y : Fin 16, ∀ k : Fin 3, (toldN x.val y.val k.val).all (fun c => decide (32 ≤ c ∧ c ≤ 126 ∧ c ≠ 34 ∧ c ≠ 92 ∧ c ≠ 10 ∧ c ≠ 13)) = true := by decide +kernel
  intro c hc
  exact of_decide_eq_true (List.all_eq_true.mp (a1 ⟨x, by omega⟩ ⟨y, by omega⟩ ⟨k, by omega⟩) c hc)
theorem told_len (x y k : Nat) : 0 < (toldN x y k).length ∧ (toldN x y k).length ≤ 13 := by
  unfold toldN wordsN
  by_cases hx : 0 < x <;> by_cases hy : 0 < y <;> by_cases hk : k = 1 <;> simp [hx, hy, hk, spJoin]
theorem told_ok (x y k : Nat) (hx : x ≤ 15) (hy : y ≤ 15) (hk : k ≤ 2) : ToldOk (toldN x y k) := by
  have a1 := told_signs x y k hx hy hk
  have a2 := told_len x y k
  have e1 : (S (toldN x y k)).length = (toldN x y k).length := by simp [Str.length]
  have e2 : (S (toldN x y k)).cps.size = (toldN x y k).length := by simp
  exact ⟨fun c hc => ⟨(a1 c (by simpa using hc)).1, (a1 c (by simpa using hc)).2.1⟩, by rw [e2]; omega, by rw [e1]; omega, occ_none _ 92 (fun h => (a1 92 (by simpa using h)).2.2.2.1 rfl) _ (by omega), esc_none _ (fun h => (a1 34 (by simpa using h)).2.2.1 rfl)⟩
theorem cell_ok (c : Int) : ToldOk (toldN (xOf c) (yOf c) (kOf c)) := by
  have h1 := fmod16 c
  have h2 := fmod16 (c.fdiv 16)
  have h3 := xor16 _ _ h1 h2
  have h4 := fmod3 (c.fdiv 512)
  exact told_ok _ _ _ (by unfold xOf; omega) (by unfold yOf; omega) (by unfold kOf; omega)
/-- a row, the page's octets -/
noncomputable def rowN (k : Nat) (v : List Nat) : List Nat := dotsN k ++ [116, 58, 32] ++ v
noncomputable def pageN (d2 d3 d1 : Nat) (v2 v0 v3 v1 : List Nat) : List Nat := rowN d2 v2 ++ [13, 10] ++ (rowN 0 v0 ++ [13, 10] ++ (rowN d3 v3 ++ [13, 10] ++ (rowN d1 v1 ++ [13, 10, 13, 10])))
noncomputable def cellV (c : Int) : List Nat := valN (toldN (xOf c) (yOf c) (kOf c)) (kOf c)
theorem row_is (k : Int) (v : List Nat) (h0 : 0 ≤ k) (h3 : k ≤ 10) : Txt.mul (Str.ofString ".") k ++ Str.ofString "t: " ++ S v = S (rowN k.toNat v) := by
  have : ∀ k : Fin 11, (Txt.mul (Str.ofString ".") (k.val : Int) ++ Str.ofString "t: " == S (dotsN k.val ++ [116, 58, 32])) = true := by decide +kernel
  have e : ((k.toNat : Nat) : Int) = k := Int.toNat_of_nonneg h0
  have e2 := eq_of_beq (this ⟨k.toNat, by omega⟩)
  rw [← e, e2, S_app]
  rfl
theorem row_zero (v : List Nat) : Str.ofString "t: " ++ S v = S (rowN 0 v) := by
  rw [show Str.ofString "t: " = S [116, 58, 32] from rfl, S_app]
  rfl
theorem tj (s : Str) (l : List Str) : Txt.join s l = Str.join s l := eq_of_beq (join_plain_closes s l)
theorem join_cons (s a b : Str) (r : List Str) : Str.join s (a :: b :: r) = a ++ s ++ Str.join s (b :: r) := rfl
theorem crlf_is : Str.ofString "\r\n" = S [13, 10] := by decide +kernel
theorem empty_is : Str.ofString "" = S [] := by decide +kernel
theorem page_join (a b c d : List Nat) : Txt.join (Str.ofString "\r\n") [S a, S b, S c, S d, Str.ofString "", Str.ofString ""] = S (a ++ [13, 10] ++ (b ++ [13, 10] ++ (c ++ [13, 10] ++ (d ++ [13, 10, 13, 10])))) := by
  rw [tj, crlf_is, empty_is, join_cons, join_cons, join_cons, join_cons, join_cons, show Str.join (S [13, 10]) [S []] = S [] from rfl]
  simp only [S_app a, S_app b, S_app c, S_app d, S_app []]
  simp only [S_app]
  simp
theorem val_signs (x y k : Nat) (hx : x ≤ 15) (hy : y ≤ 15) (hk : k ≤ 2) : ∀ c ∈ valN (toldN x y k) k, 32 ≤ c ∧ c ≤ 126 := by
  intro c hc
  unfold valN at hc
  have a1 := told_signs x y k hx hy hk
  have l1 : ∀ c ∈ ([59, 32, 111, 102, 61, 34, 97, 41, 92, 34, 34] : List Nat), 32 ≤ c ∧ c ≤ 126 := by decide
  have l2 : ∀ c ∈ ([70, 76, 65, 71, 83, 32, 40, 66, 80, 41, 59, 32, 111, 102, 61, 34] : List Nat), 32 ≤ c ∧ c ≤ 126 := by decide
  have l3 : ∀ c ∈ ([111, 102, 61, 34] : List Nat), 32 ≤ c ∧ c ≤ 126 := by decide
  have l4 : ∀ c ∈ ([34] : List Nat), 32 ≤ c ∧ c ≤ 126 := by decide
  split at hc
  · rcases List.mem_append.mp hc with h | h
    · exact ⟨(a1 c h).1, (a1 c h).2.1⟩
    · exact l1 c h
  · split at hc
    · rcases List.mem_append.mp hc with h | h
      · rcases List.mem_append.mp h with h | h
        · exact l2 c h
        · exact ⟨(a1 c h).1, (a1 c h).2.1⟩
      · exact l4 c h
    · rcases List.mem_append.mp hc with h | h
      · rcases List.mem_append.mp h with h | h
        · exact l3 c h
        · exact ⟨(a1 c h).1, (a1 c h).2.1⟩
      · exact l4 c h
theorem cell_bounds (c : Int) : xOf c ≤ 15 ∧ yOf c ≤ 15 ∧ kOf c ≤ 2 := by
  have h1 := fmod16 c
  have h2 := fmod16 (c.fdiv 16)
  have h3 := xor16 _ _ h1 h2
  have h4 := fmod3 (c.fdiv 512)
  exact ⟨by unfold xOf; omega, by unfold yOf; omega, by unfold kOf; omega⟩
theorem cell_signs (c : Int) : ∀ y ∈ cellV c, 32 ≤ y ∧ y ≤ 126 := val_signs _ _ _ (cell_bounds c).1 (cell_bounds c).2.1 (cell_bounds c).2.2
theorem cell_len (c : Int) : (cellV c).length ≤ 40 := by
  have a2 := told_len (xOf c) (yOf c) (kOf c)
  unfold cellV valN
  split
  · simp; omega
  · split
    · simp; omega
    · simp; omega
theorem row_signs {k : Nat} {v : List Nat} (h : ∀ y ∈ v, 32 ≤ y ∧ y ≤ 126) : ∀ y ∈ rowN k v, 32 ≤ y ∧ y ≤ 126 := by
  intro y hy
  unfold rowN dotsN at hy
  have l3 : ∀ c ∈ ([116, 58, 32] : List Nat), 32 ≤ c ∧ c ≤ 126 := by decide
  rcases List.mem_append.mp hy with h' | h'
  · rcases List.mem_append.mp h' with h' | h'
    · rw [List.eq_of_mem_replicate h']; decide
    · exact l3 y h'
  · exact h y h'
theorem row_len {k : Nat} {v : List Nat} (hk : k ≤ 10) (h : v.length ≤ 40) : (rowN k v).length ≤ 60 := by
  unfold rowN dotsN
  simp
  omega
theorem page_signs {d2 d3 d1 : Nat} {v2 v0 v3 v1 : List Nat} (h2 : ∀ y ∈ v2, 32 ≤ y ∧ y ≤ 126) (h0 : ∀ y ∈ v0, 32 ≤ y ∧ y ≤ 126) (h3 : ∀ y ∈ v3, 32 ≤ y ∧ y ≤ 126) (h1 : ∀ y ∈ v1, 32 ≤ y ∧ y ≤ 126) : ∀ y ∈ pageN d2 d3 d1 v2 v0 v3 v1, y < 128 := by
  intro y hy
  unfold pageN at hy
  simp only [List.mem_append, List.mem_cons, List.not_mem_nil, or_false] at hy
  rcases hy with (h | h) | (h | h) | (h | h) | h | h
  · have := row_signs h2 y h; omega
  · omega
  · have := row_signs h0 y h; omega
  · omega
  · have := row_signs h3 y h; omega
  · omega
  · have := row_signs h1 y h; omega
  · omega
theorem page_len {d2 d3 d1 : Nat} {v2 v0 v3 v1 : List Nat} (e2 : d2 ≤ 10) (e3 : d3 ≤ 10) (e1 : d1 ≤ 10) (h2 : v2.length ≤ 40) (h0 : v0.length ≤ 40) (h3 : v3.length ≤ 40) (h1 : v1.length ≤ 40) : (pageN d2 d3 d1 v2 v0 v3 v1).length ≤ 300 := by
  have a := row_len e2 h2
  have b := row_len (k := 0) (by omega) h0
  have c := row_len e3 h3
  have d := row_len e1 h1
  unfold pageN
  simp only [List.length_append, List.length_cons, List.length_nil]
  omega
theorem page_ne {d2 d3 d1 : Nat} {v2 v0 v3 v1 : List Nat} : pageN d2 d3 d1 v2 v0 v3 v1 ≠ [] := by
  intro h
  have := congrArg List.length h
  unfold pageN at this
  simp at this
theorem join_ok6 {a b c d : List Nat} (ha : a.length ≤ 100) (hb : b.length ≤ 100) (hc : c.length ≤ 100) (hd : d.length ≤ 100) : ([S a, S b, S c, S d, Str.ofString "", Str.ofString ""].map (·.length)).sum + [S a, S b, S c, S d, Str.ofString "", Str.ofString ""].length * (Str.ofString "\r\n").length ≤ 16777216 := by
  have h2 : (Str.ofString "\r\n").length = 2 := by decide +kernel
  have h3 : (Str.ofString "").length = 0 := by decide +kernel
  have e : ∀ l : List Nat, (S l).length = l.length := fun l => by simp [Str.length]
  simp only [List.map_cons, List.map_nil, List.sum_cons, List.sum_nil, List.length_cons, List.length_nil, h2, h3, e a, e b, e c, e d]
  omega
/-- what the branches of a turn of the page's loop do -/
noncomputable def TurnP (w : World) (A : Around) (st : Stmt) (env : Env) (g : Heap) : Prop :=
  ∀ (x d l dl r1 r2 r3 r4 r5 r6 : Nat) (o1 o2 o3 o4 o5 o6 : Obj) (tkh : Tok) (items ds : Array Value) (n nd : Nat) (m : Str → Option Value) (s : Shared) (k kd : Int) (T : List Nat) (Hs : Str) (t1 t2 t3 t4 : Tok) (Q : Flow → Shared → Prop),
    d < x → x < l → l < dl → (r1 < d ∨ dl < r1) → (r2 < d ∨ dl < r2) → (r3 < d ∨ dl < r3) → (r4 < d ∨ dl < r4) → (r5 < d ∨ dl < r5) → (r6 < d ∨ dl < r6) → items.size ≤ 100 → ds.size ≤ 100 → 0 ≤ k → k ≤ 3 → 0 ≤ kd → kd ≤ 2 → Hs.length ≤ 1000 → ToldOk T →
    m (Str.ofString "page") = some (.ref x) → m (Str.ofString "due") = some (.ref dl) → m (Str.ofString "k") = some (.int k t1) → m (Str.ofString "kind") = some (.int kd t2) → m (Str.ofString "told") = some (.str (S T) t3) → m (Str.ofString "head") = some (.str Hs t4) →
    Fr g env.locals s.heap m → News g env.locals s.heap ((dl, listOf ds nd) :: pageLed w.params x d l tkh items n ++ [(r1, o1), (r2, o2), (r3, o3), (r4, o4), (r5, o5), (r6, o6)]) →
    (∀ h' tk' (Tp : Nat) u1 u2 u3, Fr g env.locals h' m → News g env.locals h' ((Tp, tupO [.str (S (dotsN k.toNat ++ [116])) u1, .str (S (valN T kd.toNat)) u2]) :: (dl, listOf (ds.push (.str (Hs ++ S (valN T kd.toNat)) u3)) (nd + 1)) :: pageLed w.params x d l tkh (items.push (.ref Tp)) (n + 1) ++ [(r1, o1), (r2, o2), (r3, o3), (r4, o4), (r5, o5), (r6, o6)]) →
      dl < Tp → r1 < Tp → r2 < Tp → r3 < Tp → r4 < Tp → r5 < Tp → r6 < Tp → Q .next { s with heap := h', toks := tk' }) →
    wpAny (model Challenge.rw_wj0050_01.row.prog w) A (exec st env) Q (fun _ _ => False) s
theorem turn_cut {w : World} {A : Around} {st : Stmt} {env : Env} {s : Shared} {Q : Flow → Shared → Prop} (g : Heap) (turn : TurnP w A st env g) (rest : TurnP w A st env g → wpAny (model Challenge.rw_wj0050_01.row.prog w) A (exec st env) Q (fun _ _ => False) s) :
    Halt (wpAny (model Challenge.rw_wj0050_01.row.prog w) A (exec st env) Q (fun _ _ => False) s) := rest turn
theorem page_join' (d2 d3 d1 : Nat) (v2 v0 v3 v1 : List Nat) : Txt.join (Str.ofString "\r\n") [S (rowN d2 v2), S (rowN 0 v0), S (rowN d3 v3), S (rowN d1 v1), Str.ofString "", Str.ofString ""] = S (pageN d2 d3 d1 v2 v0 v3 v1) := page_join _ _ _ _
theorem row_len' {k : Nat} {c : Int} (hk : k ≤ 10) : (rowN k (cellV c)).length ≤ 100 := Nat.le_trans (row_len hk (cell_len c)) (by decide)
/-- the page as it stands behind _law_page: its list, itself, its dict, the four headers -/
noncomputable abbrev headT (k : Nat) (v : List Nat) (u u' : Tok) : Obj := tupO [.str (S (dotsN k ++ [116])) u, .str (S v) u']
noncomputable abbrev headLed (P : Params) (x d l T2 T0 T3 T1 : Nat) (tk : Tok) (u : Nat → Tok) (v2 v0 v3 v1 : List Nat) : Led :=
  pageLed P x d l tk #[.ref T2, .ref T0, .ref T3, .ref T1] 4 ++ [(T2, headT 2 v2 (u 0) (u 1)), (T0, headT 0 v0 (u 2) (u 3)), (T3, headT 3 v3 (u 4) (u 5)), (T1, headT 1 v1 (u 6) (u 7))]
/-- eight tokens -/
noncomputable def toks8 (a b c d e f g h : Tok) : Nat → Tok
  | 0 => a | 1 => b | 2 => c | 3 => d | 4 => e | 5 => f | 6 => g | _ => h
theorem method_encode {M : Model} {A : Around} {E : Value → Shared → Prop} {s : Shared} {x : Str} {t : Tok} {pl : Sem Bool} {Q : Value × List Value → Shared → Prop} (h : Q (.builtin "str.encode", [.str x t]) s) : wpAny M A (getMethod (.str x t) (Str.ofString "encode") pl) Q E s := by
  with_reducible exact GM.of (.str x t) (typeIs_str _ _ _) F.slot_str_encode F.type_str_encode GM.noRef h
theorem ledEnd {g h' : Heap} {L : Addr} {pls pD pE pT4 pdl pl px pd pS pc pT1 pT2 pT3 : Addr × Obj} (N : News g L h' [pls, pD, pE, pT4, pdl, pl, px, pd, pS, pc, pT1, pT2, pT3]) : News g L h' (pls :: pc :: ([pl, px, pd] ++ [pT1, pT2, pT3, pT4])) := fun p hp => N p (by
  simp only [List.mem_cons, List.not_mem_nil, or_false, List.cons_append, List.nil_append] at hp ⊢
  rcases hp with h | h | h | h | h | h | h | h | h <;> simp [h])
theorem push4 (a b c d : Value) : (((#[].push a).push b).push c).push d = #[a, b, c, d] := rfl
theorem page_ret {P : Params} {ls x d l T2 T0 T3 T1 : Nat} {tk tb a b c' d' e f g' h : Tok} {pg v2 v0 v3 v1 : List Nat} {pc : Addr × Obj} : ∃ (ls' x' dd' l' T2' T0' T3' T1' : Nat) (tk' tb' : Tok) (u : Nat → Tok), Value.ref ls = .ref ls' ∧
    (ls, listOf #[.ref x, .bytes (BB pg) tb] 0) :: pc :: ([(l, listOf #[.ref T2, .ref T0, .ref T3, .ref T1] 4), (x, instObj 250 d), (d, dictOf [⟨PyData.keyHash P (Str.ofString "_headers"), .str (Str.ofString "_headers") tk, .ref l⟩] 1)] ++ [(T2, headT 2 v2 a b), (T0, headT 0 v0 c' d'), (T3, headT 3 v3 e f), (T1, headT 1 v1 g' h)])
      = (ls', listOf #[.ref x', .bytes (BB pg) tb'] 0) :: pc :: headLed P x' dd' l' T2' T0' T3' T1' tk' u v2 v0 v3 v1 := ⟨ls, x, d, l, T2, T0, T3, T1, tk, tb, toks8 a b c' d' e f g' h, rfl, rfl⟩
theorem tuL {k tu : Int} {n : Nat} (h : 1 ≤ tu ∧ tu ≤ 3) (hk : k + 3 ≤ n) : (k + tu).toNat ≤ n := by omega
theorem tuI {k tu : Int} (h : 1 ≤ tu ∧ tu ≤ 3) (hk : 0 ≤ k) : 0 ≤ k + tu := by omega
theorem tuJ {k tu m : Int} (h : 1 ≤ tu ∧ tu ≤ 3) (hk : k + 3 ≤ m) : k + tu ≤ m := by omega
theorem tuN {k tu : Int} (h : 1 ≤ tu ∧ tu ≤ 3) (hk : 0 ≤ k) : ((k + tu).toNat : Int) - tu = k := by omega
theorem ite0 {x j : Int} {d : Decidable (0 > x)} (h : x = j) (hj : 0 ≤ j) : (if 0 > x then 0 else x) = j := by rw [if_neg (by omega), h]
theorem posK {a b c : Nat} (h : b ≤ c) (k : a + 1 ≤ b) : 0 < c := Nat.lt_of_lt_of_le (Nat.succ_pos a) (Nat.le_trans k h)
end
theorem off_W7 : True := by
  w_top off
  trivial
section
local macro_rules | `(tactic| walk_at "my pad") => `(tactic| skip)
theorem off0 {d x l dl : Nat} (h1 : d < x) (h2 : x < l) (h3 : l < dl) : ¬ dl = l ∧ ¬ dl = x ∧ ¬ dl = d := ⟨Nat.ne_of_gt h3, Nat.ne_of_gt (Nat.lt_trans h2 h3), Nat.ne_of_gt (Nat.lt_trans h1 (Nat.lt_trans h2 h3))⟩
theorem offD {r d x l dl : Nat} (h1 : d < x) (h2 : x < l) (h3 : l < dl) (hr : r < d ∨ dl < r) : r ≠ dl := hr.elim (fun h => Nat.ne_of_lt (Nat.lt_trans h (Nat.lt_trans h1 (Nat.lt_trans h2 h3)))) Nat.ne_of_gt
theorem off3 {r d x l dl : Nat} (h1 : d < x) (h2 : x < l) (h3 : l < dl) (hr : r < d ∨ dl < r) : ¬ r = l ∧ ¬ r = x ∧ ¬ r = d := hr.elim (fun h => ⟨Nat.ne_of_lt (Nat.lt_trans h (Nat.lt_trans h1 h2)), Nat.ne_of_lt (Nat.lt_trans h h1), Nat.ne_of_lt h⟩) (fun h => ⟨Nat.ne_of_gt (Nat.lt_trans h3 h), Nat.ne_of_gt (Nat.lt_trans h2 (Nat.lt_trans h3 h)), Nat.ne_of_gt (Nat.lt_trans h1 (Nat.lt_trans h2 (Nat.lt_trans h3 h)))⟩)
theorem mul_sz {k : Int} {s : Str} (h0 : 0 ≤ k) (h3 : k ≤ 10) (hs : s.length ≤ 1000) : (Txt.mul (Str.ofString ".") k).length + s.length ≤ sizeLine := by
  have : ∀ k : Fin 11, (Txt.mul (Str.ofString ".") (k.val : Int)).length ≤ 10 := by decide +kernel
  obtain ⟨n, rfl⟩ := Int.eq_ofNat_of_zero_le h0
  have h := this ⟨n, Int.ofNat_lt.mp (Int.lt_of_le_of_lt h3 (by decide))⟩
  exact Nat.le_trans (Nat.add_le_add h hs) (by decide)
section
local macro_rules | `(tactic| size_fits) => `(tactic| (with_reducible refine mul_sz ?_ ?_ (by decide +kernel) <;> first | assumption | exact tuI (by assumption) (by decide) | exact tuJ (by assumption) (by decide) | exact Int.le_trans (by assumption) (by decide : (3 : Int) ≤ 10)))
local macro_rules | `(tactic| walk_at "call ref") => `(tactic| walk_at "H")
local macro_rules | `(tactic| walk_at "exec If Compare cons cons") => `(tactic| (k_here; (fail_if_success (with_reducible rename InTurn => hIT)); refine halt ?_))
local macro_rules | `(tactic| k_enter) => `(tactic| ((fail_if_success (with_reducible rename NoEnter => hz)); refine hold ?_))
local macro_rules | `(tactic| walk_at "getMethod str") => `(tactic| walk_at "H")
local macro_rules | `(tactic| walk_at "call builtin:str.encode") => `(tactic| walk_at "H")
theorem law_page_spec (w : World) (c : Addr) (a0 a1 a2 a3 : Int) (t0 t1 t2 t3 : Tok) (n : Nat) (tu : Int) (t : Tok) (h0 : 0 ≤ a0 ∧ a0 ≤ 100000) (h1 : 0 ≤ a1 ∧ a1 ≤ 100000) (h2 : 0 ≤ a2 ∧ a2 ≤ 100000) (h3 : 0 ≤ a3 ∧ a3 ≤ 100000) (htu : 1 ≤ tu ∧ tu ≤ 3) : Spec w 32 256 275 [.ref c, .int tu t] [] [(c, listOf #[.int a0 t0, .int a1 t1, .int a2 t2, .int a3 t3] n)] (fun _ r n' => ∃ (ls x d l T2 T0 T3 T1 : Nat) (tk tb : Tok) (u : Nat → Tok), r = .ref ls ∧ n' = (ls, listOf #[.ref x, .bytes (BB (pageN (2 + tu).toNat (3 + tu).toNat (1 + tu).toNat (cellV a2) (cellV a0) (cellV a3) (cellV a1))) tb] 0) :: (c, listOf #[.int a0 t0, .int a1 t1, .int a2 t2, .int a3 t3] n) :: headLed w.params x d l T2 T0 T3 T1 tk u (cellV a2) (cellV a0) (cellV a3) (cellV a1)) := by
  ((refine' Spec.enter ?ho ?hcd ?hbind ?hloc ?c2 ?c3 ?c4 ?c5 ?hdd ?_); (case ho => k_is); (case hcd => k_is); (case hbind => first | exact (fun _ _ => BindsTo.of_eq rfl) | (intro _ hX; exact binds_K hX rfl (by k_is) rfl rfl rfl)); (case hloc => exact locs rfl); (case c2 => exact rfl); (case c3 => exact rfl); (case c4 => exact rfl); (case c5 => decide); (case hdd => decide); skip)
  intro loose mean mg mb dp un gd outer A₀ base g L h₁ s Q tk hB hF hX hN hT hd hu hG hQ
  (try dsimp only); (try k_fold)
  (repeat' (first | (unfold Hold; first | ((with_reducible show wpAny _ _ (call (Value.builtin "str.encode") [Value.str _ _]) _ _ _); first | (with_reducible (k_dflt (refine' encode_utf8 (page_signs ?_ ?_ ?_ ?_) (Nat.le_trans (page_len ?_ ?_ ?_ ?_ ?_ ?_ ?_) (by decide)) page_ne ?_); (iterate 4 (k_dflt exact cell_signs _)); (iterate 3 ((first | (with_reducible first | exact tuL (by assumption) (by decide) | exact tuI (by assumption) (by decide) | exact tuJ (by assumption) (by decide) | exact Nat.zero_le _) | omega))); (iterate 4 (k_dflt exact cell_len _)); intro _ _)) | (k_dflt (refine' encode_utf8 (page_signs ?_ ?_ ?_ ?_) (Nat.le_trans (page_len ?_ ?_ ?_ ?_ ?_ ?_ ?_) (by decide)) page_ne ?_); (iterate 4 (k_dflt exact cell_signs _)); (iterate 3 ((first | (with_reducible first | exact tuL (by assumption) (by decide) | exact tuI (by assumption) (by decide) | exact tuJ (by assumption) (by decide) | exact Nat.zero_le _) | omega))); (iterate 4 (k_dflt exact cell_len _)); intro _ _)) | ((with_reducible show wpAny _ _ (getMethod (Value.str _ _) (Str.ofString "encode") _) _ _ _); first | (with_reducible (refine method_encode ?_)) | (refine method_encode ?_)) | ((with_reducible show codeAny _ _ _ _ _); first | (with_reducible ((k_dflt (first   | (refine' header_str (by assumption) ?a1 ?a2 ?a3 ?a4 ?a5 ?a6 ?a7 ?a8 ?a9 ?a0 ?k1 ?k2 ?k3 ?k4 ?k5 ?kK ?kd ?ku ?h1 (by assumption) ?h2 ?_; (case a1 => assumption); (case a2 => assumption); (case a3 => assumption); (case a4 => assumption); (case a5 => assumption); (case a6 => assumption); (case a7 => assumption); (case a8 => assumption); (case a9 => assumption); (case a0 => assumption))   | (refine' header_none (by assumption) ?a1 ?a2 ?a3 ?a4 ?a5 ?a6 ?a7 ?k1 ?k2 ?k3 ?k4 ?k5 ?kK ?kd ?ku ?h1 (by assumption) ?h2 ?_; (case a1 => assumption); (case a2 => assumption); (case a3 => assumption); (case a4 => assumption); (case a5 => assumption); (case a6 => assumption); (case a7 => assumption))); ((case k1 => first | k_asm | fail "spec: the frames below"); (case k2 => first | k_asm | fail "spec: the frame"); (case k3 => first | k_asm | fail "spec: the written part"); (case k4 => first | k_asm | fail "spec: the ledger"); (case k5 => first | k_asm | fail "spec: the top's facts"); (case kK => first | exact rfl | assumption | fail "spec: the caller is no def"); (case kd => first | (with_reducible exact roomN (by assumption) (by decide)) | ktr_room | fail "spec: room"); (case ku => first | (with_reducible exact roomN (by assumption) (by decide)) | ktr_units | fail "spec: units"); (case h1 => (dsimp only [pageLed]; kcj_all)); (case h2 => kcj_all)); intro h9 tk9 T9 t9 F9 N9 l9 l8; (try k_lt l9); (try simp only [pageLed, List.nil_append, List.cons_append] at N9); (try dsimp only); (try k_fold)))) | ((k_dflt (first   | (refine' header_str (by assumption) ?a1 ?a2 ?a3 ?a4 ?a5 ?a6 ?a7 ?a8 ?a9 ?a0 ?k1 ?k2 ?k3 ?k4 ?k5 ?kK ?kd ?ku ?h1 (by assumption) ?h2 ?_; (case a1 => assumption); (case a2 => assumption); (case a3 => assumption); (case a4 => assumption); (case a5 => assumption); (case a6 => assumption); (case a7 => assumption); (case a8 => assumption); (case a9 => assumption); (case a0 => assumption))   | (refine' header_none (by assumption) ?a1 ?a2 ?a3 ?a4 ?a5 ?a6 ?a7 ?k1 ?k2 ?k3 ?k4 ?k5 ?kK ?kd ?ku ?h1 (by assumption) ?h2 ?_; (case a1 => assumption); (case a2 => assumption); (case a3 => assumption); (case a4 => assumption); (case a5 => assumption); (case a6 => assumption); (case a7 => assumption))); ((case k1 => first | k_asm | fail "spec: the frames below"); (case k2 => first | k_asm | fail "spec: the frame"); (case k3 => first | k_asm | fail "spec: the written part"); (case k4 => first | k_asm | fail "spec: the ledger"); (case k5 => first | k_asm | fail "spec: the top's facts"); (case kK => first | exact rfl | assumption | fail "spec: the caller is no def"); (case kd => first | (with_reducible exact roomN (by assumption) (by decide)) | ktr_room | fail "spec: room"); (case ku => first | (with_reducible exact roomN (by assumption) (by decide)) | ktr_units | fail "spec: units"); (case h1 => (dsimp only [pageLed]; kcj_all)); (case h2 => kcj_all)); intro h9 tk9 T9 t9 F9 N9 l9 l8; (try k_lt l9); (try simp only [pageLed, List.nil_append, List.cons_append] at N9); (try dsimp only); (try k_fold))) | (have hz9 : NoEnter := ⟨⟩; k_enter; all_goals (try clear hz9))) | ((with_reducible show wpAny _ _ (call (Value.ref 268) [Value.int _ _]) _ _ _); first | (with_reducible (k_dflt (refine' Spec.use (law_list_spec _ _ _ ?ha) _ ?k1 ?k2 ?k3 ?k4 ?k5 ?kK ?kd ?ku (led_nil _) (led_self _) (led_none _) ?_); (case ha => k_dflt assumption); ((case k1 => first | k_asm | fail "spec: the frames below"); (case k2 => first | k_asm | k_dflt assumption | fail "spec: the frame"); (case k3 => first | k_asm | fail "spec: the written part"); (case k4 => first | k_asm | k_dflt assumption | fail "spec: the ledger"); (case k5 => first | k_asm | fail "spec: the top's facts"); (case kK => first | exact rfl | assumption | fail "spec: the caller is no def"); (case kd => first | (with_reducible exact roomN (by assumption) (by decide)) | ktr_room | fail "spec: room"); (case ku => first | (with_reducible exact roomN (by assumption) (by decide)) | ktr_units | fail "spec: units")); intro r9 h9 tk9 n9 F9 N9 _ R9; obtain ⟨⟨t9, e9⟩, e8⟩ := R9; subst e9; subst e8; (try simp only [List.nil_append, List.cons_append] at N9); (try dsimp only); (try k_fold))) | (k_dflt (refine' Spec.use (law_list_spec _ _ _ ?ha) _ ?k1 ?k2 ?k3 ?k4 ?k5 ?kK ?kd ?ku (led_nil _) (led_self _) (led_none _) ?_); (case ha => k_dflt assumption); ((case k1 => first | k_asm | fail "spec: the frames below"); (case k2 => first | k_asm | k_dflt assumption | fail "spec: the frame"); (case k3 => first | k_asm | fail "spec: the written part"); (case k4 => first | k_asm | k_dflt assumption | fail "spec: the ledger"); (case k5 => first | k_asm | fail "spec: the top's facts"); (case kK => first | exact rfl | assumption | fail "spec: the caller is no def"); (case kd => first | (with_reducible exact roomN (by assumption) (by decide)) | ktr_room | fail "spec: room"); (case ku => first | (with_reducible exact roomN (by assumption) (by decide)) | ktr_units | fail "spec: units")); intro r9 h9 tk9 n9 F9 N9 _ R9; obtain ⟨⟨t9, e9⟩, e8⟩ := R9; subst e9; subst e8; (try simp only [List.nil_append, List.cons_append] at N9); (try dsimp only); (try k_fold))) | (have hz9 : NoHalt := ⟨⟩; walk1; all_goals (try clear hz9))) | (k_unfold; (try dsimp only)) | (k_end; wrow_close) | walk1 | (dsimp only; walk1) | (leave1; walk_say "STEP leave1"; try dsimp only) | fail "no step"))
  refine turn_cut g ?turn ?rest
  case turn =>
    unfold TurnP
    intro x d l dl r1 r2 r3 r4 r5 r6 o1 o2 o3 o4 o5 o6 tkh items ds n nd m s' k kd T Hs t1 t2 t3 t4 Q' hxd hdl hld q1 q2 q3 q4 q5 q6 hi hds hk0 hk3 hd0 hd2 hHs hTo m1 m2 m3 m4 m5 m6 hF' hN' hQ'
    have hIT : InTurn := ⟨⟩
    have wx9 : dl ≠ x := (off0 hxd hdl hld).2.1
    have wd9 : dl ≠ d := (off0 hxd hdl hld).2.2
    have n1 := offD hxd hdl hld q1
    have n2 := offD hxd hdl hld q2
    have n3 := offD hxd hdl hld q3
    have n4 := offD hxd hdl hld q4
    have n5 := offD hxd hdl hld q5
    have n6 := offD hxd hdl hld q6
    have hPg : PageIs w.params x d l tkh items n := ⟨hxd, hdl, hi⟩
    have h3' : ∀ p ∈ [(dl, listOf ds nd), (r1, o1), (r2, o2), (r3, o3), (r4, o4), (r5, o5), (r6, o6)], p.1 ∉ (pageLed w.params x d l tkh items n).map (·.1) := by
      simp only [List.mem_cons, List.not_mem_nil, or_false, forall_eq_or_imp, forall_eq, pageLed, List.map_cons, List.map_nil, not_or]
      exact ⟨off0 hxd hdl hld, off3 hxd hdl hld q1, off3 hxd hdl hld q2, off3 hxd hdl hld q3, off3 hxd hdl hld q4, off3 hxd hdl hld q5, off3 hxd hdl hld q6⟩
    have e1 := name_plain k hk0 hk3
    have e2 := name_size k hk0 hk3
    have e3 := hTo.plain
    have e4 := hTo.size
    have e5 := hTo.len
    have e6 := hTo.occ
    have e7 : (S T).length ≤ 100000 := by omega
    have e8 : (escQ (S T)).length ≤ 3000 := by rw [hTo.esc]; omega
    have f1 : Plain (Str.ofString "a)\"").cps.toList := by unfold Plain; decide +kernel
    have f2 : (Str.ofString "a)\"").cps.size < 2 ^ 63 := by decide +kernel
    have f3 : 0 < (Str.ofString "a)\"").length ∧ (Str.ofString "a)\"").length ≤ 1000 := by decide +kernel
    have f4 : (escQ (Str.ofString "a)\"")).length ≤ 3000 := by decide +kernel
    have f5 : (Builtin.Str.occurrences (Str.ofString "a)\"") (Str.ofString "\\") 0 (Str.ofString "a)\"").length ((Str.ofString "a)\"").length + 1)).isEmpty = true := by decide +kernel
    have g1 : Plain (Str.ofString "FLAGS (BP)").cps.toList := by unfold Plain; decide +kernel
    have g2 : (Str.ofString "FLAGS (BP)").cps.size < 2 ^ 63 := by decide +kernel
    have g3 : (Str.ofString "FLAGS (BP)").length ≤ 100000 := by decide +kernel
    (try simp only [pageLed, List.cons_append, List.nil_append] at hN')
    (repeat' (first | (unfold Hold; first | ((with_reducible show wpAny _ _ (call (Value.builtin "str.encode") [Value.str _ _]) _ _ _); first | (with_reducible (k_dflt (refine' encode_utf8 (page_signs ?_ ?_ ?_ ?_) (Nat.le_trans (page_len ?_ ?_ ?_ ?_ ?_ ?_ ?_) (by decide)) page_ne ?_); (iterate 4 (k_dflt exact cell_signs _)); (iterate 3 ((first | (with_reducible first | exact tuL (by assumption) (by decide) | exact tuI (by assumption) (by decide) | exact tuJ (by assumption) (by decide) | exact Nat.zero_le _) | omega))); (iterate 4 (k_dflt exact cell_len _)); intro _ _)) | (k_dflt (refine' encode_utf8 (page_signs ?_ ?_ ?_ ?_) (Nat.le_trans (page_len ?_ ?_ ?_ ?_ ?_ ?_ ?_) (by decide)) page_ne ?_); (iterate 4 (k_dflt exact cell_signs _)); (iterate 3 ((first | (with_reducible first | exact tuL (by assumption) (by decide) | exact tuI (by assumption) (by decide) | exact tuJ (by assumption) (by decide) | exact Nat.zero_le _) | omega))); (iterate 4 (k_dflt exact cell_len _)); intro _ _)) | ((with_reducible show wpAny _ _ (getMethod (Value.str _ _) (Str.ofString "encode") _) _ _ _); first | (with_reducible (refine method_encode ?_)) | (refine method_encode ?_)) | ((with_reducible show codeAny _ _ _ _ _); first | (with_reducible ((k_dflt (first   | (refine' header_str (by assumption) ?a1 ?a2 ?a3 ?a4 ?a5 ?a6 ?a7 ?a8 ?a9 ?a0 ?k1 ?k2 ?k3 ?k4 ?k5 ?kK ?kd ?ku ?h1 (by assumption) ?h2 ?_; (case a1 => assumption); (case a2 => assumption); (case a3 => assumption); (case a4 => assumption); (case a5 => assumption); (case a6 => assumption); (case a7 => assumption); (case a8 => assumption); (case a9 => assumption); (case a0 => assumption))   | (refine' header_none (by assumption) ?a1 ?a2 ?a3 ?a4 ?a5 ?a6 ?a7 ?k1 ?k2 ?k3 ?k4 ?k5 ?kK ?kd ?ku ?h1 (by assumption) ?h2 ?_; (case a1 => assumption); (case a2 => assumption); (case a3 => assumption); (case a4 => assumption); (case a5 => assumption); (case a6 => assumption); (case a7 => assumption))); ((case k1 => first | k_asm | fail "spec: the frames below"); (case k2 => first | k_asm | fail "spec: the frame"); (case k3 => first | k_asm | fail "spec: the written part"); (case k4 => first | k_asm | fail "spec: the ledger"); (case k5 => first | k_asm | fail "spec: the top's facts"); (case kK => first | exact rfl | assumption | fail "spec: the caller is no def"); (case kd => first | (with_reducible exact roomN (by assumption) (by decide)) | ktr_room | fail "spec: room"); (case ku => first | (with_reducible exact roomN (by assumption) (by decide)) | ktr_units | fail "spec: units"); (case h1 => (dsimp only [pageLed]; kcj_all)); (case h2 => kcj_all)); intro h9 tk9 T9 t9 F9 N9 l9 l8; (try k_lt l9); (try simp only [pageLed, List.nil_append, List.cons_append] at N9); (try dsimp only); (try k_fold)))) | ((k_dflt (first   | (refine' header_str (by assumption) ?a1 ?a2 ?a3 ?a4 ?a5 ?a6 ?a7 ?a8 ?a9 ?a0 ?k1 ?k2 ?k3 ?k4 ?k5 ?kK ?kd ?ku ?h1 (by assumption) ?h2 ?_; (case a1 => assumption); (case a2 => assumption); (case a3 => assumption); (case a4 => assumption); (case a5 => assumption); (case a6 => assumption); (case a7 => assumption); (case a8 => assumption); (case a9 => assumption); (case a0 => assumption))   | (refine' header_none (by assumption) ?a1 ?a2 ?a3 ?a4 ?a5 ?a6 ?a7 ?k1 ?k2 ?k3 ?k4 ?k5 ?kK ?kd ?ku ?h1 (by assumption) ?h2 ?_; (case a1 => assumption); (case a2 => assumption); (case a3 => assumption); (case a4 => assumption); (case a5 => assumption); (case a6 => assumption); (case a7 => assumption))); ((case k1 => first | k_asm | fail "spec: the frames below"); (case k2 => first | k_asm | fail "spec: the frame"); (case k3 => first | k_asm | fail "spec: the written part"); (case k4 => first | k_asm | fail "spec: the ledger"); (case k5 => first | k_asm | fail "spec: the top's facts"); (case kK => first | exact rfl | assumption | fail "spec: the caller is no def"); (case kd => first | (with_reducible exact roomN (by assumption) (by decide)) | ktr_room | fail "spec: room"); (case ku => first | (with_reducible exact roomN (by assumption) (by decide)) | ktr_units | fail "spec: units"); (case h1 => (dsimp only [pageLed]; kcj_all)); (case h2 => kcj_all)); intro h9 tk9 T9 t9 F9 N9 l9 l8; (try k_lt l9); (try simp only [pageLed, List.nil_append, List.cons_append] at N9); (try dsimp only); (try k_fold))) | (have hz9 : NoEnter := ⟨⟩; k_enter; all_goals (try clear hz9))) | ((with_reducible show wpAny _ _ (call (Value.ref 268) [Value.int _ _]) _ _ _); first | (with_reducible (k_dflt (refine' Spec.use (law_list_spec _ _ _ ?ha) _ ?k1 ?k2 ?k3 ?k4 ?k5 ?kK ?kd ?ku (led_nil _) (led_self _) (led_none _) ?_); (case ha => k_dflt assumption); ((case k1 => first | k_asm | fail "spec: the frames below"); (case k2 => first | k_asm | k_dflt assumption | fail "spec: the frame"); (case k3 => first | k_asm | fail "spec: the written part"); (case k4 => first | k_asm | k_dflt assumption | fail "spec: the ledger"); (case k5 => first | k_asm | fail "spec: the top's facts"); (case kK => first | exact rfl | assumption | fail "spec: the caller is no def"); (case kd => first | (with_reducible exact roomN (by assumption) (by decide)) | ktr_room | fail "spec: room"); (case ku => first | (with_reducible exact roomN (by assumption) (by decide)) | ktr_units | fail "spec: units")); intro r9 h9 tk9 n9 F9 N9 _ R9; obtain ⟨⟨t9, e9⟩, e8⟩ := R9; subst e9; subst e8; (try simp only [List.nil_append, List.cons_append] at N9); (try dsimp only); (try k_fold))) | (k_dflt (refine' Spec.use (law_list_spec _ _ _ ?ha) _ ?k1 ?k2 ?k3 ?k4 ?k5 ?kK ?kd ?ku (led_nil _) (led_self _) (led_none _) ?_); (case ha => k_dflt assumption); ((case k1 => first | k_asm | fail "spec: the frames below"); (case k2 => first | k_asm | k_dflt assumption | fail "spec: the frame"); (case k3 => first | k_asm | fail "spec: the written part"); (case k4 => first | k_asm | k_dflt assumption | fail "spec: the ledger"); (case k5 => first | k_asm | fail "spec: the top's facts"); (case kK => first | exact rfl | assumption | fail "spec: the caller is no def"); (case kd => first | (with_reducible exact roomN (by assumption) (by decide)) | ktr_room | fail "spec: room"); (case ku => first | (with_reducible exact roomN (by assumption) (by decide)) | ktr_units | fail "spec: units")); intro r9 h9 tk9 n9 F9 N9 _ R9; obtain ⟨⟨t9, e9⟩, e8⟩ := R9; subst e9; subst e8; (try simp only [List.nil_append, List.cons_append] at N9); (try dsimp only); (try k_fold))) | (have hz9 : NoHalt := ⟨⟩; walk1; all_goals (try clear hz9))) | (k_unfold; (try dsimp only)) | (k_end; wrow_close) | walk1 | (dsimp only; walk1) | (leave1; walk_say "STEP leave1"; try dsimp only) | fail "no step"))
    all_goals (with_reducible rename News _ _ _ (_ :: _) => NN)
    · rw [val0 (by assumption), name_is k hk0 hk3, due0 _ (by assumption)] at NN
      refine hQ' _ _ _ _ _ _ (by k_asm) (ledTurn NN) ?_ ?_ ?_ ?_ ?_ ?_ ?_ <;> (first | (with_reducible first | assumption | (refine lt_via (by assumption) fun hz9 => ?_; (iterate 14 (first | done | exact hz9.1 | replace hz9 := hz9.2)); done) | (refine Or.inl (lt_via (by assumption) fun hz9 => ?_); (iterate 14 (first | done | exact hz9.1 | replace hz9 := hz9.2)); done) | (refine Or.inr (lt_via (by assumption) fun hz9 => ?_); (iterate 14 (first | done | exact hz9.1 | replace hz9 := hz9.2)); done)) | omega)
    · rw [val1 hTo.esc (by assumption), name_is k hk0 hk3, due1 _ (by assumption)] at NN
      refine hQ' _ _ _ _ _ _ (by k_asm) (ledTurn NN) ?_ ?_ ?_ ?_ ?_ ?_ ?_ <;> (first | (with_reducible first | assumption | (refine lt_via (by assumption) fun hz9 => ?_; (iterate 14 (first | done | exact hz9.1 | replace hz9 := hz9.2)); done) | (refine Or.inl (lt_via (by assumption) fun hz9 => ?_); (iterate 14 (first | done | exact hz9.1 | replace hz9 := hz9.2)); done) | (refine Or.inr (lt_via (by assumption) fun hz9 => ?_); (iterate 14 (first | done | exact hz9.1 | replace hz9 := hz9.2)); done)) | omega)
    · rw [val2 hTo.esc (by assumption) (by assumption) hd0, name_is k hk0 hk3, due2 _ (by assumption) (by assumption) hd0] at NN
      refine hQ' _ _ _ _ _ _ (by k_asm) (ledTurn NN) ?_ ?_ ?_ ?_ ?_ ?_ ?_ <;> (first | (with_reducible first | assumption | (refine lt_via (by assumption) fun hz9 => ?_; (iterate 14 (first | done | exact hz9.1 | replace hz9 := hz9.2)); done) | (refine Or.inl (lt_via (by assumption) fun hz9 => ?_); (iterate 14 (first | done | exact hz9.1 | replace hz9 := hz9.2)); done) | (refine Or.inr (lt_via (by assumption) fun hz9 => ?_); (iterate 14 (first | done | exact hz9.1 | replace hz9 := hz9.2)); done)) | omega)
  case rest =>
    intro turn
    (with_reducible rename News _ _ _ (_ :: _) => NN)
    refine' turn _ _ _ _ _ _ _ _ _ _ _ _ _ _ _ _ _ _ _ _ _ _ _ _ _ _ _ _ _ _ _ _ ?u1 ?u2 ?u3 ?q1 ?q2 ?q3 ?q4 ?q5 ?q6 ?s1 ?s2 ?z1 ?z2 ?z3 ?z4 ?z5 ?hT ?m1 ?m2 ?m3 ?m4 ?m5 ?m6 ?hF (ledA NN) ?_
    case hF => k_asm
    case m1 => exact rfl
    case m2 => exact rfl
    case m3 => exact rfl
    case m4 => exact rfl
    case m5 => exact rfl
    case m6 => exact rfl
    case s1 => exact Nat.le_of_ble_eq_true rfl
    case s2 => exact Nat.le_of_ble_eq_true rfl
    case z1 => decide
    case z2 => decide
    case z3 => exact (fmod3 _).1
    case z4 => exact (fmod3 _).2
    case z5 => first | exact head_len _ (by (first | (with_reducible first | exact tuL (by assumption) (by decide) | exact tuI (by assumption) (by decide) | exact tuJ (by assumption) (by decide) | exact Nat.zero_le _) | omega)) (by (first | (with_reducible first | exact tuL (by assumption) (by decide) | exact tuI (by assumption) (by decide) | exact tuJ (by assumption) (by decide) | exact Nat.zero_le _) | omega)) | decide +kernel
    case hT => exact cell_ok _
    case u1 => (first | (with_reducible first | assumption | (refine lt_via (by assumption) fun hz9 => ?_; (iterate 14 (first | done | exact hz9.1 | replace hz9 := hz9.2)); done) | (refine Or.inl (lt_via (by assumption) fun hz9 => ?_); (iterate 14 (first | done | exact hz9.1 | replace hz9 := hz9.2)); done) | (refine Or.inr (lt_via (by assumption) fun hz9 => ?_); (iterate 14 (first | done | exact hz9.1 | replace hz9 := hz9.2)); done)) | omega)
    case u2 => (first | (with_reducible first | assumption | (refine lt_via (by assumption) fun hz9 => ?_; (iterate 14 (first | done | exact hz9.1 | replace hz9 := hz9.2)); done) | (refine Or.inl (lt_via (by assumption) fun hz9 => ?_); (iterate 14 (first | done | exact hz9.1 | replace hz9 := hz9.2)); done) | (refine Or.inr (lt_via (by assumption) fun hz9 => ?_); (iterate 14 (first | done | exact hz9.1 | replace hz9 := hz9.2)); done)) | omega)
    case u3 => (first | (with_reducible first | assumption | (refine lt_via (by assumption) fun hz9 => ?_; (iterate 14 (first | done | exact hz9.1 | replace hz9 := hz9.2)); done) | (refine Or.inl (lt_via (by assumption) fun hz9 => ?_); (iterate 14 (first | done | exact hz9.1 | replace hz9 := hz9.2)); done) | (refine Or.inr (lt_via (by assumption) fun hz9 => ?_); (iterate 14 (first | done | exact hz9.1 | replace hz9 := hz9.2)); done)) | omega)
    case q1 => (first | (with_reducible first | assumption | (refine lt_via (by assumption) fun hz9 => ?_; (iterate 14 (first | done | exact hz9.1 | replace hz9 := hz9.2)); done) | (refine Or.inl (lt_via (by assumption) fun hz9 => ?_); (iterate 14 (first | done | exact hz9.1 | replace hz9 := hz9.2)); done) | (refine Or.inr (lt_via (by assumption) fun hz9 => ?_); (iterate 14 (first | done | exact hz9.1 | replace hz9 := hz9.2)); done)) | omega)
    case q2 => (first | (with_reducible first | assumption | (refine lt_via (by assumption) fun hz9 => ?_; (iterate 14 (first | done | exact hz9.1 | replace hz9 := hz9.2)); done) | (refine Or.inl (lt_via (by assumption) fun hz9 => ?_); (iterate 14 (first | done | exact hz9.1 | replace hz9 := hz9.2)); done) | (refine Or.inr (lt_via (by assumption) fun hz9 => ?_); (iterate 14 (first | done | exact hz9.1 | replace hz9 := hz9.2)); done)) | omega)
    case q3 => (first | (with_reducible first | assumption | (refine lt_via (by assumption) fun hz9 => ?_; (iterate 14 (first | done | exact hz9.1 | replace hz9 := hz9.2)); done) | (refine Or.inl (lt_via (by assumption) fun hz9 => ?_); (iterate 14 (first | done | exact hz9.1 | replace hz9 := hz9.2)); done) | (refine Or.inr (lt_via (by assumption) fun hz9 => ?_); (iterate 14 (first | done | exact hz9.1 | replace hz9 := hz9.2)); done)) | omega)
    case q4 => (first | (with_reducible first | assumption | (refine lt_via (by assumption) fun hz9 => ?_; (iterate 14 (first | done | exact hz9.1 | replace hz9 := hz9.2)); done) | (refine Or.inl (lt_via (by assumption) fun hz9 => ?_); (iterate 14 (first | done | exact hz9.1 | replace hz9 := hz9.2)); done) | (refine Or.inr (lt_via (by assumption) fun hz9 => ?_); (iterate 14 (first | done | exact hz9.1 | replace hz9 := hz9.2)); done)) | omega)
    case q5 => (first | (with_reducible first | assumption | (refine lt_via (by assumption) fun hz9 => ?_; (iterate 14 (first | done | exact hz9.1 | replace hz9 := hz9.2)); done) | (refine Or.inl (lt_via (by assumption) fun hz9 => ?_); (iterate 14 (first | done | exact hz9.1 | replace hz9 := hz9.2)); done) | (refine Or.inr (lt_via (by assumption) fun hz9 => ?_); (iterate 14 (first | done | exact hz9.1 | replace hz9 := hz9.2)); done)) | omega)
    case q6 => (first | (with_reducible first | assumption | (refine lt_via (by assumption) fun hz9 => ?_; (iterate 14 (first | done | exact hz9.1 | replace hz9 := hz9.2)); done) | (refine Or.inl (lt_via (by assumption) fun hz9 => ?_); (iterate 14 (first | done | exact hz9.1 | replace hz9 := hz9.2)); done) | (refine Or.inr (lt_via (by assumption) fun hz9 => ?_); (iterate 14 (first | done | exact hz9.1 | replace hz9 := hz9.2)); done)) | omega)
    intro h9 tk9 T9A u1 u2 u3 F9 N9 l0 l1 l2 l3 l4 l5 l6
    (try simp only [pageLed, List.nil_append, List.cons_append] at N9)
    (try dsimp only)
    (try k_fold)
    (repeat' (first | (unfold Hold; first | ((with_reducible show wpAny _ _ (call (Value.builtin "str.encode") [Value.str _ _]) _ _ _); first | (with_reducible (k_dflt (refine' encode_utf8 (page_signs ?_ ?_ ?_ ?_) (Nat.le_trans (page_len ?_ ?_ ?_ ?_ ?_ ?_ ?_) (by decide)) page_ne ?_); (iterate 4 (k_dflt exact cell_signs _)); (iterate 3 ((first | (with_reducible first | exact tuL (by assumption) (by decide) | exact tuI (by assumption) (by decide) | exact tuJ (by assumption) (by decide) | exact Nat.zero_le _) | omega))); (iterate 4 (k_dflt exact cell_len _)); intro _ _)) | (k_dflt (refine' encode_utf8 (page_signs ?_ ?_ ?_ ?_) (Nat.le_trans (page_len ?_ ?_ ?_ ?_ ?_ ?_ ?_) (by decide)) page_ne ?_); (iterate 4 (k_dflt exact cell_signs _)); (iterate 3 ((first | (with_reducible first | exact tuL (by assumption) (by decide) | exact tuI (by assumption) (by decide) | exact tuJ (by assumption) (by decide) | exact Nat.zero_le _) | omega))); (iterate 4 (k_dflt exact cell_len _)); intro _ _)) | ((with_reducible show wpAny _ _ (getMethod (Value.str _ _) (Str.ofString "encode") _) _ _ _); first | (with_reducible (refine method_encode ?_)) | (refine method_encode ?_)) | ((with_reducible show codeAny _ _ _ _ _); first | (with_reducible ((k_dflt (first   | (refine' header_str (by assumption) ?a1 ?a2 ?a3 ?a4 ?a5 ?a6 ?a7 ?a8 ?a9 ?a0 ?k1 ?k2 ?k3 ?k4 ?k5 ?kK ?kd ?ku ?h1 (by assumption) ?h2 ?_; (case a1 => assumption); (case a2 => assumption); (case a3 => assumption); (case a4 => assumption); (case a5 => assumption); (case a6 => assumption); (case a7 => assumption); (case a8 => assumption); (case a9 => assumption); (case a0 => assumption))   | (refine' header_none (by assumption) ?a1 ?a2 ?a3 ?a4 ?a5 ?a6 ?a7 ?k1 ?k2 ?k3 ?k4 ?k5 ?kK ?kd ?ku ?h1 (by assumption) ?h2 ?_; (case a1 => assumption); (case a2 => assumption); (case a3 => assumption); (case a4 => assumption); (case a5 => assumption); (case a6 => assumption); (case a7 => assumption))); ((case k1 => first | k_asm | fail "spec: the frames below"); (case k2 => first | k_asm | fail "spec: the frame"); (case k3 => first | k_asm | fail "spec: the written part"); (case k4 => first | k_asm | fail "spec: the ledger"); (case k5 => first | k_asm | fail "spec: the top's facts"); (case kK => first | exact rfl | assumption | fail "spec: the caller is no def"); (case kd => first | (with_reducible exact roomN (by assumption) (by decide)) | ktr_room | fail "spec: room"); (case ku => first | (with_reducible exact roomN (by assumption) (by decide)) | ktr_units | fail "spec: units"); (case h1 => (dsimp only [pageLed]; kcj_all)); (case h2 => kcj_all)); intro h9 tk9 T9 t9 F9 N9 l9 l8; (try k_lt l9); (try simp only [pageLed, List.nil_append, List.cons_append] at N9); (try dsimp only); (try k_fold)))) | ((k_dflt (first   | (refine' header_str (by assumption) ?a1 ?a2 ?a3 ?a4 ?a5 ?a6 ?a7 ?a8 ?a9 ?a0 ?k1 ?k2 ?k3 ?k4 ?k5 ?kK ?kd ?ku ?h1 (by assumption) ?h2 ?_; (case a1 => assumption); (case a2 => assumption); (case a3 => assumption); (case a4 => assumption); (case a5 => assumption); (case a6 => assumption); (case a7 => assumption); (case a8 => assumption); (case a9 => assumption); (case a0 => assumption))   | (refine' header_none (by assumption) ?a1 ?a2 ?a3 ?a4 ?a5 ?a6 ?a7 ?k1 ?k2 ?k3 ?k4 ?k5 ?kK ?kd ?ku ?h1 (by assumption) ?h2 ?_; (case a1 => assumption); (case a2 => assumption); (case a3 => assumption); (case a4 => assumption); (case a5 => assumption); (case a6 => assumption); (case a7 => assumption))); ((case k1 => first | k_asm | fail "spec: the frames below"); (case k2 => first | k_asm | fail "spec: the frame"); (case k3 => first | k_asm | fail "spec: the written part"); (case k4 => first | k_asm | fail "spec: the ledger"); (case k5 => first | k_asm | fail "spec: the top's facts"); (case kK => first | exact rfl | assumption | fail "spec: the caller is no def"); (case kd => first | (with_reducible exact roomN (by assumption) (by decide)) | ktr_room | fail "spec: room"); (case ku => first | (with_reducible exact roomN (by assumption) (by decide)) | ktr_units | fail "spec: units"); (case h1 => (dsimp only [pageLed]; kcj_all)); (case h2 => kcj_all)); intro h9 tk9 T9 t9 F9 N9 l9 l8; (try k_lt l9); (try simp only [pageLed, List.nil_append, List.cons_append] at N9); (try dsimp only); (try k_fold))) | (have hz9 : NoEnter := ⟨⟩; k_enter; all_goals (try clear hz9))) | ((with_reducible show wpAny _ _ (call (Value.ref 268) [Value.int _ _]) _ _ _); first | (with_reducible (k_dflt (refine' Spec.use (law_list_spec _ _ _ ?ha) _ ?k1 ?k2 ?k3 ?k4 ?k5 ?kK ?kd ?ku (led_nil _) (led_self _) (led_none _) ?_); (case ha => k_dflt assumption); ((case k1 => first | k_asm | fail "spec: the frames below"); (case k2 => first | k_asm | k_dflt assumption | fail "spec: the frame"); (case k3 => first | k_asm | fail "spec: the written part"); (case k4 => first | k_asm | k_dflt assumption | fail "spec: the ledger"); (case k5 => first | k_asm | fail "spec: the top's facts"); (case kK => first | exact rfl | assumption | fail "spec: the caller is no def"); (case kd => first | (with_reducible exact roomN (by assumption) (by decide)) | ktr_room | fail "spec: room"); (case ku => first | (with_reducible exact roomN (by assumption) (by decide)) | ktr_units | fail "spec: units")); intro r9 h9 tk9 n9 F9 N9 _ R9; obtain ⟨⟨t9, e9⟩, e8⟩ := R9; subst e9; subst e8; (try simp only [List.nil_append, List.cons_append] at N9); (try dsimp only); (try k_fold))) | (k_dflt (refine' Spec.use (law_list_spec _ _ _ ?ha) _ ?k1 ?k2 ?k3 ?k4 ?k5 ?kK ?kd ?ku (led_nil _) (led_self _) (led_none _) ?_); (case ha => k_dflt assumption); ((case k1 => first | k_asm | fail "spec: the frames below"); (case k2 => first | k_asm | k_dflt assumption | fail "spec: the frame"); (case k3 => first | k_asm | fail "spec: the written part"); (case k4 => first | k_asm | k_dflt assumption | fail "spec: the ledger"); (case k5 => first | k_asm | fail "spec: the top's facts"); (case kK => first | exact rfl | assumption | fail "spec: the caller is no def"); (case kd => first | (with_reducible exact roomN (by assumption) (by decide)) | ktr_room | fail "spec: room"); (case ku => first | (with_reducible exact roomN (by assumption) (by decide)) | ktr_units | fail "spec: units")); intro r9 h9 tk9 n9 F9 N9 _ R9; obtain ⟨⟨t9, e9⟩, e8⟩ := R9; subst e9; subst e8; (try simp only [List.nil_append, List.cons_append] at N9); (try dsimp only); (try k_fold))) | (have hz9 : NoHalt := ⟨⟩; walk1; all_goals (try clear hz9))) | (k_unfold; (try dsimp only)) | (k_end; wrow_close) | walk1 | (dsimp only; walk1) | (leave1; walk_say "STEP leave1"; try dsimp only) | fail "no step"))
    refine id (α := Halt _) ?_; unfold Halt
    (with_reducible rename News _ _ _ (_ :: _) => NN)
    refine' turn _ _ _ _ _ _ _ _ _ _ _ _ _ _ _ _ _ _ _ _ _ _ _ _ _ _ _ _ _ _ _ _ ?u1 ?u2 ?u3 ?q1 ?q2 ?q3 ?q4 ?q5 ?q6 ?s1 ?s2 ?z1 ?z2 ?z3 ?z4 ?z5 ?hT ?m1 ?m2 ?m3 ?m4 ?m5 ?m6 ?hF (ledB NN) ?_
    case hF => k_asm
    case m1 => exact rfl
    case m2 => exact rfl
    case m3 => exact rfl
    case m4 => exact rfl
    case m5 => exact rfl
    case m6 => exact rfl
    case s1 => exact Nat.le_of_ble_eq_true rfl
    case s2 => exact Nat.le_of_ble_eq_true rfl
    case z1 => decide
    case z2 => decide
    case z3 => exact (fmod3 _).1
    case z4 => exact (fmod3 _).2
    case z5 => first | exact head_len _ (by (first | (with_reducible first | exact tuL (by assumption) (by decide) | exact tuI (by assumption) (by decide) | exact tuJ (by assumption) (by decide) | exact Nat.zero_le _) | omega)) (by (first | (with_reducible first | exact tuL (by assumption) (by decide) | exact tuI (by assumption) (by decide) | exact tuJ (by assumption) (by decide) | exact Nat.zero_le _) | omega)) | decide +kernel
    case hT => exact cell_ok _
    case u1 => (first | (with_reducible first | assumption | (refine lt_via (by assumption) fun hz9 => ?_; (iterate 14 (first | done | exact hz9.1 | replace hz9 := hz9.2)); done) | (refine Or.inl (lt_via (by assumption) fun hz9 => ?_); (iterate 14 (first | done | exact hz9.1 | replace hz9 := hz9.2)); done) | (refine Or.inr (lt_via (by assumption) fun hz9 => ?_); (iterate 14 (first | done | exact hz9.1 | replace hz9 := hz9.2)); done)) | omega)
    case u2 => (first | (with_reducible first | assumption | (refine lt_via (by assumption) fun hz9 => ?_; (iterate 14 (first | done | exact hz9.1 | replace hz9 := hz9.2)); done) | (refine Or.inl (lt_via (by assumption) fun hz9 => ?_); (iterate 14 (first | done | exact hz9.1 | replace hz9 := hz9.2)); done) | (refine Or.inr (lt_via (by assumption) fun hz9 => ?_); (iterate 14 (first | done | exact hz9.1 | replace hz9 := hz9.2)); done)) | omega)
    case u3 => (first | (with_reducible first | assumption | (refine lt_via (by assumption) fun hz9 => ?_; (iterate 14 (first | done | exact hz9.1 | replace hz9 := hz9.2)); done) | (refine Or.inl (lt_via (by assumption) fun hz9 => ?_); (iterate 14 (first | done | exact hz9.1 | replace hz9 := hz9.2)); done) | (refine Or.inr (lt_via (by assumption) fun hz9 => ?_); (iterate 14 (first | done | exact hz9.1 | replace hz9 := hz9.2)); done)) | omega)
    case q1 => (first | (with_reducible first | assumption | (refine lt_via (by assumption) fun hz9 => ?_; (iterate 14 (first | done | exact hz9.1 | replace hz9 := hz9.2)); done) | (refine Or.inl (lt_via (by assumption) fun hz9 => ?_); (iterate 14 (first | done | exact hz9.1 | replace hz9 := hz9.2)); done) | (refine Or.inr (lt_via (by assumption) fun hz9 => ?_); (iterate 14 (first | done | exact hz9.1 | replace hz9 := hz9.2)); done)) | omega)
    case q2 => (first | (with_reducible first | assumption | (refine lt_via (by assumption) fun hz9 => ?_; (iterate 14 (first | done | exact hz9.1 | replace hz9 := hz9.2)); done) | (refine Or.inl (lt_via (by assumption) fun hz9 => ?_); (iterate 14 (first | done | exact hz9.1 | replace hz9 := hz9.2)); done) | (refine Or.inr (lt_via (by assumption) fun hz9 => ?_); (iterate 14 (first | done | exact hz9.1 | replace hz9 := hz9.2)); done)) | omega)
    case q3 => (first | (with_reducible first | assumption | (refine lt_via (by assumption) fun hz9 => ?_; (iterate 14 (first | done | exact hz9.1 | replace hz9 := hz9.2)); done) | (refine Or.inl (lt_via (by assumption) fun hz9 => ?_); (iterate 14 (first | done | exact hz9.1 | replace hz9 := hz9.2)); done) | (refine Or.inr (lt_via (by assumption) fun hz9 => ?_); (iterate 14 (first | done | exact hz9.1 | replace hz9 := hz9.2)); done)) | omega)
    case q4 => (first | (with_reducible first | assumption | (refine lt_via (by assumption) fun hz9 => ?_; (iterate 14 (first | done | exact hz9.1 | replace hz9 := hz9.2)); done) | (refine Or.inl (lt_via (by assumption) fun hz9 => ?_); (iterate 14 (first | done | exact hz9.1 | replace hz9 := hz9.2)); done) | (refine Or.inr (lt_via (by assumption) fun hz9 => ?_); (iterate 14 (first | done | exact hz9.1 | replace hz9 := hz9.2)); done)) | omega)
    case q5 => (first | (with_reducible first | assumption | (refine lt_via (by assumption) fun hz9 => ?_; (iterate 14 (first | done | exact hz9.1 | replace hz9 := hz9.2)); done) | (refine Or.inl (lt_via (by assumption) fun hz9 => ?_); (iterate 14 (first | done | exact hz9.1 | replace hz9 := hz9.2)); done) | (refine Or.inr (lt_via (by assumption) fun hz9 => ?_); (iterate 14 (first | done | exact hz9.1 | replace hz9 := hz9.2)); done)) | omega)
    case q6 => (first | (with_reducible first | assumption | (refine lt_via (by assumption) fun hz9 => ?_; (iterate 14 (first | done | exact hz9.1 | replace hz9 := hz9.2)); done) | (refine Or.inl (lt_via (by assumption) fun hz9 => ?_); (iterate 14 (first | done | exact hz9.1 | replace hz9 := hz9.2)); done) | (refine Or.inr (lt_via (by assumption) fun hz9 => ?_); (iterate 14 (first | done | exact hz9.1 | replace hz9 := hz9.2)); done)) | omega)
    intro h9 tk9 T9B u1 u2 u3 F9 N9 l0 l1 l2 l3 l4 l5 l6
    (try simp only [pageLed, List.nil_append, List.cons_append] at N9)
    (try dsimp only)
    (try k_fold)
    (repeat' (first | (unfold Hold; first | ((with_reducible show wpAny _ _ (call (Value.builtin "str.encode") [Value.str _ _]) _ _ _); first | (with_reducible (k_dflt (refine' encode_utf8 (page_signs ?_ ?_ ?_ ?_) (Nat.le_trans (page_len ?_ ?_ ?_ ?_ ?_ ?_ ?_) (by decide)) page_ne ?_); (iterate 4 (k_dflt exact cell_signs _)); (iterate 3 ((first | (with_reducible first | exact tuL (by assumption) (by decide) | exact tuI (by assumption) (by decide) | exact tuJ (by assumption) (by decide) | exact Nat.zero_le _) | omega))); (iterate 4 (k_dflt exact cell_len _)); intro _ _)) | (k_dflt (refine' encode_utf8 (page_signs ?_ ?_ ?_ ?_) (Nat.le_trans (page_len ?_ ?_ ?_ ?_ ?_ ?_ ?_) (by decide)) page_ne ?_); (iterate 4 (k_dflt exact cell_signs _)); (iterate 3 ((first | (with_reducible first | exact tuL (by assumption) (by decide) | exact tuI (by assumption) (by decide) | exact tuJ (by assumption) (by decide) | exact Nat.zero_le _) | omega))); (iterate 4 (k_dflt exact cell_len _)); intro _ _)) | ((with_reducible show wpAny _ _ (getMethod (Value.str _ _) (Str.ofString "encode") _) _ _ _); first | (with_reducible (refine method_encode ?_)) | (refine method_encode ?_)) | ((with_reducible show codeAny _ _ _ _ _); first | (with_reducible ((k_dflt (first   | (refine' header_str (by assumption) ?a1 ?a2 ?a3 ?a4 ?a5 ?a6 ?a7 ?a8 ?a9 ?a0 ?k1 ?k2 ?k3 ?k4 ?k5 ?kK ?kd ?ku ?h1 (by assumption) ?h2 ?_; (case a1 => assumption); (case a2 => assumption); (case a3 => assumption); (case a4 => assumption); (case a5 => assumption); (case a6 => assumption); (case a7 => assumption); (case a8 => assumption); (case a9 => assumption); (case a0 => assumption))   | (refine' header_none (by assumption) ?a1 ?a2 ?a3 ?a4 ?a5 ?a6 ?a7 ?k1 ?k2 ?k3 ?k4 ?k5 ?kK ?kd ?ku ?h1 (by assumption) ?h2 ?_; (case a1 => assumption); (case a2 => assumption); (case a3 => assumption); (case a4 => assumption); (case a5 => assumption); (case a6 => assumption); (case a7 => assumption))); ((case k1 => first | k_asm | fail "spec: the frames below"); (case k2 => first | k_asm | fail "spec: the frame"); (case k3 => first | k_asm | fail "spec: the written part"); (case k4 => first | k_asm | fail "spec: the ledger"); (case k5 => first | k_asm | fail "spec: the top's facts"); (case kK => first | exact rfl | assumption | fail "spec: the caller is no def"); (case kd => first | (with_reducible exact roomN (by assumption) (by decide)) | ktr_room | fail "spec: room"); (case ku => first | (with_reducible exact roomN (by assumption) (by decide)) | ktr_units | fail "spec: units"); (case h1 => (dsimp only [pageLed]; kcj_all)); (case h2 => kcj_all)); intro h9 tk9 T9 t9 F9 N9 l9 l8; (try k_lt l9); (try simp only [pageLed, List.nil_append, List.cons_append] at N9); (try dsimp only); (try k_fold)))) | ((k_dflt (first   | (refine' header_str (by assumption) ?a1 ?a2 ?a3 ?a4 ?a5 ?a6 ?a7 ?a8 ?a9 ?a0 ?k1 ?k2 ?k3 ?k4 ?k5 ?kK ?kd ?ku ?h1 (by assumption) ?h2 ?_; (case a1 => assumption); (case a2 => assumption); (case a3 => assumption); (case a4 => assumption); (case a5 => assumption); (case a6 => assumption); (case a7 => assumption); (case a8 => assumption); (case a9 => assumption); (case a0 => assumption))   | (refine' header_none (by assumption) ?a1 ?a2 ?a3 ?a4 ?a5 ?a6 ?a7 ?k1 ?k2 ?k3 ?k4 ?k5 ?kK ?kd ?ku ?h1 (by assumption) ?h2 ?_; (case a1 => assumption); (case a2 => assumption); (case a3 => assumption); (case a4 => assumption); (case a5 => assumption); (case a6 => assumption); (case a7 => assumption))); ((case k1 => first | k_asm | fail "spec: the frames below"); (case k2 => first | k_asm | fail "spec: the frame"); (case k3 => first | k_asm | fail "spec: the written part"); (case k4 => first | k_asm | fail "spec: the ledger"); (case k5 => first | k_asm | fail "spec: the top's facts"); (case kK => first | exact rfl | assumption | fail "spec: the caller is no def"); (case kd => first | (with_reducible exact roomN (by assumption) (by decide)) | ktr_room | fail "spec: room"); (case ku => first | (with_reducible exact roomN (by assumption) (by decide)) | ktr_units | fail "spec: units"); (case h1 => (dsimp only [pageLed]; kcj_all)); (case h2 => kcj_all)); intro h9 tk9 T9 t9 F9 N9 l9 l8; (try k_lt l9); (try simp only [pageLed, List.nil_append, List.cons_append] at N9); (try dsimp only); (try k_fold))) | (have hz9 : NoEnter := ⟨⟩; k_enter; all_goals (try clear hz9))) | ((with_reducible show wpAny _ _ (call (Value.ref 268) [Value.int _ _]) _ _ _); first | (with_reducible (k_dflt (refine' Spec.use (law_list_spec _ _ _ ?ha) _ ?k1 ?k2 ?k3 ?k4 ?k5 ?kK ?kd ?ku (led_nil _) (led_self _) (led_none _) ?_); (case ha => k_dflt assumption); ((case k1 => first | k_asm | fail "spec: the frames below"); (case k2 => first | k_asm | k_dflt assumption | fail "spec: the frame"); (case k3 => first | k_asm | fail "spec: the written part"); (case k4 => first | k_asm | k_dflt assumption | fail "spec: the ledger"); (case k5 => first | k_asm | fail "spec: the top's facts"); (case kK => first | exact rfl | assumption | fail "spec: the caller is no def"); (case kd => first | (with_reducible exact roomN (by assumption) (by decide)) | ktr_room | fail "spec: room"); (case ku => first | (with_reducible exact roomN (by assumption) (by decide)) | ktr_units | fail "spec: units")); intro r9 h9 tk9 n9 F9 N9 _ R9; obtain ⟨⟨t9, e9⟩, e8⟩ := R9; subst e9; subst e8; (try simp only [List.nil_append, List.cons_append] at N9); (try dsimp only); (try k_fold))) | (k_dflt (refine' Spec.use (law_list_spec _ _ _ ?ha) _ ?k1 ?k2 ?k3 ?k4 ?k5 ?kK ?kd ?ku (led_nil _) (led_self _) (led_none _) ?_); (case ha => k_dflt assumption); ((case k1 => first | k_asm | fail "spec: the frames below"); (case k2 => first | k_asm | k_dflt assumption | fail "spec: the frame"); (case k3 => first | k_asm | fail "spec: the written part"); (case k4 => first | k_asm | k_dflt assumption | fail "spec: the ledger"); (case k5 => first | k_asm | fail "spec: the top's facts"); (case kK => first | exact rfl | assumption | fail "spec: the caller is no def"); (case kd => first | (with_reducible exact roomN (by assumption) (by decide)) | ktr_room | fail "spec: room"); (case ku => first | (with_reducible exact roomN (by assumption) (by decide)) | ktr_units | fail "spec: units")); intro r9 h9 tk9 n9 F9 N9 _ R9; obtain ⟨⟨t9, e9⟩, e8⟩ := R9; subst e9; subst e8; (try simp only [List.nil_append, List.cons_append] at N9); (try dsimp only); (try k_fold))) | (have hz9 : NoHalt := ⟨⟩; walk1; all_goals (try clear hz9))) | (k_unfold; (try dsimp only)) | (k_end; wrow_close) | walk1 | (dsimp only; walk1) | (leave1; walk_say "STEP leave1"; try dsimp only) | fail "no step"))
    refine id (α := Halt _) ?_; unfold Halt
    (with_reducible rename News _ _ _ (_ :: _) => NN)
    refine' turn _ _ _ _ _ _ _ _ _ _ _ _ _ _ _ _ _ _ _ _ _ _ _ _ _ _ _ _ _ _ _ _ ?u1 ?u2 ?u3 ?q1 ?q2 ?q3 ?q4 ?q5 ?q6 ?s1 ?s2 ?z1 ?z2 ?z3 ?z4 ?z5 ?hT ?m1 ?m2 ?m3 ?m4 ?m5 ?m6 ?hF (ledC NN) ?_
    case hF => k_asm
    case m1 => exact rfl
    case m2 => exact rfl
    case m3 => exact rfl
    case m4 => exact rfl
    case m5 => exact rfl
    case m6 => exact rfl
    case s1 => exact Nat.le_of_ble_eq_true rfl
    case s2 => exact Nat.le_of_ble_eq_true rfl
    case z1 => decide
    case z2 => decide
    case z3 => exact (fmod3 _).1
    case z4 => exact (fmod3 _).2
    case z5 => first | exact head_len _ (by (first | (with_reducible first | exact tuL (by assumption) (by decide) | exact tuI (by assumption) (by decide) | exact tuJ (by assumption) (by decide) | exact Nat.zero_le _) | omega)) (by (first | (with_reducible first | exact tuL (by assumption) (by decide) | exact tuI (by assumption) (by decide) | exact tuJ (by assumption) (by decide) | exact Nat.zero_le _) | omega)) | decide +kernel
    case hT => exact cell_ok _
    case u1 => (first | (with_reducible first | assumption | (refine lt_via (by assumption) fun hz9 => ?_; (iterate 14 (first | done | exact hz9.1 | replace hz9 := hz9.2)); done) | (refine Or.inl (lt_via (by assumption) fun hz9 => ?_); (iterate 14 (first | done | exact hz9.1 | replace hz9 := hz9.2)); done) | (refine Or.inr (lt_via (by assumption) fun hz9 => ?_); (iterate 14 (first | done | exact hz9.1 | replace hz9 := hz9.2)); done)) | omega)
    case u2 => (first | (with_reducible first | assumption | (refine lt_via (by assumption) fun hz9 => ?_; (iterate 14 (first | done | exact hz9.1 | replace hz9 := hz9.2)); done) | (refine Or.inl (lt_via (by assumption) fun hz9 => ?_); (iterate 14 (first | done | exact hz9.1 | replace hz9 := hz9.2)); done) | (refine Or.inr (lt_via (by assumption) fun hz9 => ?_); (iterate 14 (first | done | exact hz9.1 | replace hz9 := hz9.2)); done)) | omega)
    case u3 => (first | (with_reducible first | assumption | (refine lt_via (by assumption) fun hz9 => ?_; (iterate 14 (first | done | exact hz9.1 | replace hz9 := hz9.2)); done) | (refine Or.inl (lt_via (by assumption) fun hz9 => ?_); (iterate 14 (first | done | exact hz9.1 | replace hz9 := hz9.2)); done) | (refine Or.inr (lt_via (by assumption) fun hz9 => ?_); (iterate 14 (first | done | exact hz9.1 | replace hz9 := hz9.2)); done)) | omega)
    case q1 => (first | (with_reducible first | assumption | (refine lt_via (by assumption) fun hz9 => ?_; (iterate 14 (first | done | exact hz9.1 | replace hz9 := hz9.2)); done) | (refine Or.inl (lt_via (by assumption) fun hz9 => ?_); (iterate 14 (first | done | exact hz9.1 | replace hz9 := hz9.2)); done) | (refine Or.inr (lt_via (by assumption) fun hz9 => ?_); (iterate 14 (first | done | exact hz9.1 | replace hz9 := hz9.2)); done)) | omega)
    case q2 => (first | (with_reducible first | assumption | (refine lt_via (by assumption) fun hz9 => ?_; (iterate 14 (first | done | exact hz9.1 | replace hz9 := hz9.2)); done) | (refine Or.inl (lt_via (by assumption) fun hz9 => ?_); (iterate 14 (first | done | exact hz9.1 | replace hz9 := hz9.2)); done) | (refine Or.inr (lt_via (by assumption) fun hz9 => ?_); (iterate 14 (first | done | exact hz9.1 | replace hz9 := hz9.2)); done)) | omega)
    case q3 => (first | (with_reducible first | assumption | (refine lt_via (by assumption) fun hz9 => ?_; (iterate 14 (first | done | exact hz9.1 | replace hz9 := hz9.2)); done) | (refine Or.inl (lt_via (by assumption) fun hz9 => ?_); (iterate 14 (first | done | exact hz9.1 | replace hz9 := hz9.2)); done) | (refine Or.inr (lt_via (by assumption) fun hz9 => ?_); (iterate 14 (first | done | exact hz9.1 | replace hz9 := hz9.2)); done)) | omega)
    case q4 => (first | (with_reducible first | assumption | (refine lt_via (by assumption) fun hz9 => ?_; (iterate 14 (first | done | exact hz9.1 | replace hz9 := hz9.2)); done) | (refine Or.inl (lt_via (by assumption) fun hz9 => ?_); (iterate 14 (first | done | exact hz9.1 | replace hz9 := hz9.2)); done) | (refine Or.inr (lt_via (by assumption) fun hz9 => ?_); (iterate 14 (first | done | exact hz9.1 | replace hz9 := hz9.2)); done)) | omega)
    case q5 => (first | (with_reducible first | assumption | (refine lt_via (by assumption) fun hz9 => ?_; (iterate 14 (first | done | exact hz9.1 | replace hz9 := hz9.2)); done) | (refine Or.inl (lt_via (by assumption) fun hz9 => ?_); (iterate 14 (first | done | exact hz9.1 | replace hz9 := hz9.2)); done) | (refine Or.inr (lt_via (by assumption) fun hz9 => ?_); (iterate 14 (first | done | exact hz9.1 | replace hz9 := hz9.2)); done)) | omega)
    case q6 => (first | (with_reducible first | assumption | (refine lt_via (by assumption) fun hz9 => ?_; (iterate 14 (first | done | exact hz9.1 | replace hz9 := hz9.2)); done) | (refine Or.inl (lt_via (by assumption) fun hz9 => ?_); (iterate 14 (first | done | exact hz9.1 | replace hz9 := hz9.2)); done) | (refine Or.inr (lt_via (by assumption) fun hz9 => ?_); (iterate 14 (first | done | exact hz9.1 | replace hz9 := hz9.2)); done)) | omega)
    intro h9 tk9 T9C u1 u2 u3 F9 N9 l0 l1 l2 l3 l4 l5 l6
    (try simp only [pageLed, List.nil_append, List.cons_append] at N9)
    (try dsimp only)
    (try k_fold)
    (repeat' (first | (unfold Hold; first | ((with_reducible show wpAny _ _ (call (Value.builtin "str.encode") [Value.str _ _]) _ _ _); first | (with_reducible (k_dflt (refine' encode_utf8 (page_signs ?_ ?_ ?_ ?_) (Nat.le_trans (page_len ?_ ?_ ?_ ?_ ?_ ?_ ?_) (by decide)) page_ne ?_); (iterate 4 (k_dflt exact cell_signs _)); (iterate 3 ((first | (with_reducible first | exact tuL (by assumption) (by decide) | exact tuI (by assumption) (by decide) | exact tuJ (by assumption) (by decide) | exact Nat.zero_le _) | omega))); (iterate 4 (k_dflt exact cell_len _)); intro _ _)) | (k_dflt (refine' encode_utf8 (page_signs ?_ ?_ ?_ ?_) (Nat.le_trans (page_len ?_ ?_ ?_ ?_ ?_ ?_ ?_) (by decide)) page_ne ?_); (iterate 4 (k_dflt exact cell_signs _)); (iterate 3 ((first | (with_reducible first | exact tuL (by assumption) (by decide) | exact tuI (by assumption) (by decide) | exact tuJ (by assumption) (by decide) | exact Nat.zero_le _) | omega))); (iterate 4 (k_dflt exact cell_len _)); intro _ _)) | ((with_reducible show wpAny _ _ (getMethod (Value.str _ _) (Str.ofString "encode") _) _ _ _); first | (with_reducible (refine method_encode ?_)) | (refine method_encode ?_)) | ((with_reducible show codeAny _ _ _ _ _); first | (with_reducible ((k_dflt (first   | (refine' header_str (by assumption) ?a1 ?a2 ?a3 ?a4 ?a5 ?a6 ?a7 ?a8 ?a9 ?a0 ?k1 ?k2 ?k3 ?k4 ?k5 ?kK ?kd ?ku ?h1 (by assumption) ?h2 ?_; (case a1 => assumption); (case a2 => assumption); (case a3 => assumption); (case a4 => assumption); (case a5 => assumption); (case a6 => assumption); (case a7 => assumption); (case a8 => assumption); (case a9 => assumption); (case a0 => assumption))   | (refine' header_none (by assumption) ?a1 ?a2 ?a3 ?a4 ?a5 ?a6 ?a7 ?k1 ?k2 ?k3 ?k4 ?k5 ?kK ?kd ?ku ?h1 (by assumption) ?h2 ?_; (case a1 => assumption); (case a2 => assumption); (case a3 => assumption); (case a4 => assumption); (case a5 => assumption); (case a6 => assumption); (case a7 => assumption))); ((case k1 => first | k_asm | fail "spec: the frames below"); (case k2 => first | k_asm | fail "spec: the frame"); (case k3 => first | k_asm | fail "spec: the written part"); (case k4 => first | k_asm | fail "spec: the ledger"); (case k5 => first | k_asm | fail "spec: the top's facts"); (case kK => first | exact rfl | assumption | fail "spec: the caller is no def"); (case kd => first | (with_reducible exact roomN (by assumption) (by decide)) | ktr_room | fail "spec: room"); (case ku => first | (with_reducible exact roomN (by assumption) (by decide)) | ktr_units | fail "spec: units"); (case h1 => (dsimp only [pageLed]; kcj_all)); (case h2 => kcj_all)); intro h9 tk9 T9 t9 F9 N9 l9 l8; (try k_lt l9); (try simp only [pageLed, List.nil_append, List.cons_append] at N9); (try dsimp only); (try k_fold)))) | ((k_dflt (first   | (refine' header_str (by assumption) ?a1 ?a2 ?a3 ?a4 ?a5 ?a6 ?a7 ?a8 ?a9 ?a0 ?k1 ?k2 ?k3 ?k4 ?k5 ?kK ?kd ?ku ?h1 (by assumption) ?h2 ?_; (case a1 => assumption); (case a2 => assumption); (case a3 => assumption); (case a4 => assumption); (case a5 => assumption); (case a6 => assumption); (case a7 => assumption); (case a8 => assumption); (case a9 => assumption); (case a0 => assumption))   | (refine' header_none (by assumption) ?a1 ?a2 ?a3 ?a4 ?a5 ?a6 ?a7 ?k1 ?k2 ?k3 ?k4 ?k5 ?kK ?kd ?ku ?h1 (by assumption) ?h2 ?_; (case a1 => assumption); (case a2 => assumption); (case a3 => assumption); (case a4 => assumption); (case a5 => assumption); (case a6 => assumption); (case a7 => assumption))); ((case k1 => first | k_asm | fail "spec: the frames below"); (case k2 => first | k_asm | fail "spec: the frame"); (case k3 => first | k_asm | fail "spec: the written part"); (case k4 => first | k_asm | fail "spec: the ledger"); (case k5 => first | k_asm | fail "spec: the top's facts"); (case kK => first | exact rfl | assumption | fail "spec: the caller is no def"); (case kd => first | (with_reducible exact roomN (by assumption) (by decide)) | ktr_room | fail "spec: room"); (case ku => first | (with_reducible exact roomN (by assumption) (by decide)) | ktr_units | fail "spec: units"); (case h1 => (dsimp only [pageLed]; kcj_all)); (case h2 => kcj_all)); intro h9 tk9 T9 t9 F9 N9 l9 l8; (try k_lt l9); (try simp only [pageLed, List.nil_append, List.cons_append] at N9); (try dsimp only); (try k_fold))) | (have hz9 : NoEnter := ⟨⟩; k_enter; all_goals (try clear hz9))) | ((with_reducible show wpAny _ _ (call (Value.ref 268) [Value.int _ _]) _ _ _); first | (with_reducible (k_dflt (refine' Spec.use (law_list_spec _ _ _ ?ha) _ ?k1 ?k2 ?k3 ?k4 ?k5 ?kK ?kd ?ku (led_nil _) (led_self _) (led_none _) ?_); (case ha => k_dflt assumption); ((case k1 => first | k_asm | fail "spec: the frames below"); (case k2 => first | k_asm | k_dflt assumption | fail "spec: the frame"); (case k3 => first | k_asm | fail "spec: the written part"); (case k4 => first | k_asm | k_dflt assumption | fail "spec: the ledger"); (case k5 => first | k_asm | fail "spec: the top's facts"); (case kK => first | exact rfl | assumption | fail "spec: the caller is no def"); (case kd => first | (with_reducible exact roomN (by assumption) (by decide)) | ktr_room | fail "spec: room"); (case ku => first | (with_reducible exact roomN (by assumption) (by decide)) | ktr_units | fail "spec: units")); intro r9 h9 tk9 n9 F9 N9 _ R9; obtain ⟨⟨t9, e9⟩, e8⟩ := R9; subst e9; subst e8; (try simp only [List.nil_append, List.cons_append] at N9); (try dsimp only); (try k_fold))) | (k_dflt (refine' Spec.use (law_list_spec _ _ _ ?ha) _ ?k1 ?k2 ?k3 ?k4 ?k5 ?kK ?kd ?ku (led_nil _) (led_self _) (led_none _) ?_); (case ha => k_dflt assumption); ((case k1 => first | k_asm | fail "spec: the frames below"); (case k2 => first | k_asm | k_dflt assumption | fail "spec: the frame"); (case k3 => first | k_asm | fail "spec: the written part"); (case k4 => first | k_asm | k_dflt assumption | fail "spec: the ledger"); (case k5 => first | k_asm | fail "spec: the top's facts"); (case kK => first | exact rfl | assumption | fail "spec: the caller is no def"); (case kd => first | (with_reducible exact roomN (by assumption) (by decide)) | ktr_room | fail "spec: room"); (case ku => first | (with_reducible exact roomN (by assumption) (by decide)) | ktr_units | fail "spec: units")); intro r9 h9 tk9 n9 F9 N9 _ R9; obtain ⟨⟨t9, e9⟩, e8⟩ := R9; subst e9; subst e8; (try simp only [List.nil_append, List.cons_append] at N9); (try dsimp only); (try k_fold))) | (have hz9 : NoHalt := ⟨⟩; walk1; all_goals (try clear hz9))) | (k_unfold; (try dsimp only)) | (k_end; wrow_close) | walk1 | (dsimp only; walk1) | (leave1; walk_say "STEP leave1"; try dsimp only) | fail "no step"))
    refine id (α := Halt _) ?_; unfold Halt
    (with_reducible rename News _ _ _ (_ :: _) => NN)
    refine' turn _ _ _ _ _ _ _ _ _ _ _ _ _ _ _ _ _ _ _ _ _ _ _ _ _ _ _ _ _ _ _ _ ?u1 ?u2 ?u3 ?q1 ?q2 ?q3 ?q4 ?q5 ?q6 ?s1 ?s2 ?z1 ?z2 ?z3 ?z4 ?z5 ?hT ?m1 ?m2 ?m3 ?m4 ?m5 ?m6 ?hF (ledD NN) ?_
    case hF => k_asm
    case m1 => exact rfl
    case m2 => exact rfl
    case m3 => exact rfl
    case m4 => exact rfl
    case m5 => exact rfl
    case m6 => exact rfl
    case s1 => exact Nat.le_of_ble_eq_true rfl
    case s2 => exact Nat.le_of_ble_eq_true rfl
    case z1 => decide
    case z2 => decide
    case z3 => exact (fmod3 _).1
    case z4 => exact (fmod3 _).2
    case z5 => first | exact head_len _ (by (first | (with_reducible first | exact tuL (by assumption) (by decide) | exact tuI (by assumption) (by decide) | exact tuJ (by assumption) (by decide) | exact Nat.zero_le _) | omega)) (by (first | (with_reducible first | exact tuL (by assumption) (by decide) | exact tuI (by assumption) (by decide) | exact tuJ (by assumption) (by decide) | exact Nat.zero_le _) | omega)) | decide +kernel
    case hT => exact cell_ok _
    case u1 => (first | (with_reducible first | assumption | (refine lt_via (by assumption) fun hz9 => ?_; (iterate 14 (first | done | exact hz9.1 | replace hz9 := hz9.2)); done) | (refine Or.inl (lt_via (by assumption) fun hz9 => ?_); (iterate 14 (first | done | exact hz9.1 | replace hz9 := hz9.2)); done) | (refine Or.inr (lt_via (by assumption) fun hz9 => ?_); (iterate 14 (first | done | exact hz9.1 | replace hz9 := hz9.2)); done)) | omega)
    case u2 => (first | (with_reducible first | assumption | (refine lt_via (by assumption) fun hz9 => ?_; (iterate 14 (first | done | exact hz9.1 | replace hz9 := hz9.2)); done) | (refine Or.inl (lt_via (by assumption) fun hz9 => ?_); (iterate 14 (first | done | exact hz9.1 | replace hz9 := hz9.2)); done) | (refine Or.inr (lt_via (by assumption) fun hz9 => ?_); (iterate 14 (first | done | exact hz9.1 | replace hz9 := hz9.2)); done)) | omega)
    case u3 => (first | (with_reducible first | assumption | (refine lt_via (by assumption) fun hz9 => ?_; (iterate 14 (first | done | exact hz9.1 | replace hz9 := hz9.2)); done) | (refine Or.inl (lt_via (by assumption) fun hz9 => ?_); (iterate 14 (first | done | exact hz9.1 | replace hz9 := hz9.2)); done) | (refine Or.inr (lt_via (by assumption) fun hz9 => ?_); (iterate 14 (first | done | exact hz9.1 | replace hz9 := hz9.2)); done)) | omega)
    case q1 => (first | (with_reducible first | assumption | (refine lt_via (by assumption) fun hz9 => ?_; (iterate 14 (first | done | exact hz9.1 | replace hz9 := hz9.2)); done) | (refine Or.inl (lt_via (by assumption) fun hz9 => ?_); (iterate 14 (first | done | exact hz9.1 | replace hz9 := hz9.2)); done) | (refine Or.inr (lt_via (by assumption) fun hz9 => ?_); (iterate 14 (first | done | exact hz9.1 | replace hz9 := hz9.2)); done)) | omega)
    case q2 => (first | (with_reducible first | assumption | (refine lt_via (by assumption) fun hz9 => ?_; (iterate 14 (first | done | exact hz9.1 | replace hz9 := hz9.2)); done) | (refine Or.inl (lt_via (by assumption) fun hz9 => ?_); (iterate 14 (first | done | exact hz9.1 | replace hz9 := hz9.2)); done) | (refine Or.inr (lt_via (by assumption) fun hz9 => ?_); (iterate 14 (first | done | exact hz9.1 | replace hz9 := hz9.2)); done)) | omega)
    case q3 => (first | (with_reducible first | assumption | (refine lt_via (by assumption) fun hz9 => ?_; (iterate 14 (first | done | exact hz9.1 | replace hz9 := hz9.2)); done) | (refine Or.inl (lt_via (by assumption) fun hz9 => ?_); (iterate 14 (first | done | exact hz9.1 | replace hz9 := hz9.2)); done) | (refine Or.inr (lt_via (by assumption) fun hz9 => ?_); (iterate 14 (first | done | exact hz9.1 | replace hz9 := hz9.2)); done)) | omega)
    case q4 => (first | (with_reducible first | assumption | (refine lt_via (by assumption) fun hz9 => ?_; (iterate 14 (first | done | exact hz9.1 | replace hz9 := hz9.2)); done) | (refine Or.inl (lt_via (by assumption) fun hz9 => ?_); (iterate 14 (first | done | exact hz9.1 | replace hz9 := hz9.2)); done) | (refine Or.inr (lt_via (by assumption) fun hz9 => ?_); (iterate 14 (first | done | exact hz9.1 | replace hz9 := hz9.2)); done)) | omega)
    case q5 => (first | (with_reducible first | assumption | (refine lt_via (by assumption) fun hz9 => ?_; (iterate 14 (first | done | exact hz9.1 | replace hz9 := hz9.2)); done) | (refine Or.inl (lt_via (by assumption) fun hz9 => ?_); (iterate 14 (first | done | exact hz9.1 | replace hz9 := hz9.2)); done) | (refine Or.inr (lt_via (by assumption) fun hz9 => ?_); (iterate 14 (first | done | exact hz9.1 | replace hz9 := hz9.2)); done)) | omega)
    case q6 => (first | (with_reducible first | assumption | (refine lt_via (by assumption) fun hz9 => ?_; (iterate 14 (first | done | exact hz9.1 | replace hz9 := hz9.2)); done) | (refine Or.inl (lt_via (by assumption) fun hz9 => ?_); (iterate 14 (first | done | exact hz9.1 | replace hz9 := hz9.2)); done) | (refine Or.inr (lt_via (by assumption) fun hz9 => ?_); (iterate 14 (first | done | exact hz9.1 | replace hz9 := hz9.2)); done)) | omega)
    intro h9 tk9 T9D u1 u2 u3 F9 N9 l0 l1 l2 l3 l4 l5 l6
    (try simp only [pageLed, List.nil_append, List.cons_append] at N9)
    (try dsimp only)
    (try k_fold)
    (repeat' (first | (unfold Hold; first | ((with_reducible show wpAny _ _ (call (Value.builtin "str.encode") [Value.str _ _]) _ _ _); first | (with_reducible (k_dflt (refine' encode_utf8 (page_signs ?_ ?_ ?_ ?_) (Nat.le_trans (page_len ?_ ?_ ?_ ?_ ?_ ?_ ?_) (by decide)) page_ne ?_); (iterate 4 (k_dflt exact cell_signs _)); (iterate 3 ((first | (with_reducible first | exact tuL (by assumption) (by decide) | exact tuI (by assumption) (by decide) | exact tuJ (by assumption) (by decide) | exact Nat.zero_le _) | omega))); (iterate 4 (k_dflt exact cell_len _)); intro _ _)) | (k_dflt (refine' encode_utf8 (page_signs ?_ ?_ ?_ ?_) (Nat.le_trans (page_len ?_ ?_ ?_ ?_ ?_ ?_ ?_) (by decide)) page_ne ?_); (iterate 4 (k_dflt exact cell_signs _)); (iterate 3 ((first | (with_reducible first | exact tuL (by assumption) (by decide) | exact tuI (by assumption) (by decide) | exact tuJ (by assumption) (by decide) | exact Nat.zero_le _) | omega))); (iterate 4 (k_dflt exact cell_len _)); intro _ _)) | ((with_reducible show wpAny _ _ (getMethod (Value.str _ _) (Str.ofString "encode") _) _ _ _); first | (with_reducible (refine method_encode ?_)) | (refine method_encode ?_)) | ((with_reducible show codeAny _ _ _ _ _); first | (with_reducible ((k_dflt (first   | (refine' header_str (by assumption) ?a1 ?a2 ?a3 ?a4 ?a5 ?a6 ?a7 ?a8 ?a9 ?a0 ?k1 ?k2 ?k3 ?k4 ?k5 ?kK ?kd ?ku ?h1 (by assumption) ?h2 ?_; (case a1 => assumption); (case a2 => assumption); (case a3 => assumption); (case a4 => assumption); (case a5 => assumption); (case a6 => assumption); (case a7 => assumption); (case a8 => assumption); (case a9 => assumption); (case a0 => assumption))   | (refine' header_none (by assumption) ?a1 ?a2 ?a3 ?a4 ?a5 ?a6 ?a7 ?k1 ?k2 ?k3 ?k4 ?k5 ?kK ?kd ?ku ?h1 (by assumption) ?h2 ?_; (case a1 => assumption); (case a2 => assumption); (case a3 => assumption); (case a4 => assumption); (case a5 => assumption); (case a6 => assumption); (case a7 => assumption))); ((case k1 => first | k_asm | fail "spec: the frames below"); (case k2 => first | k_asm | fail "spec: the frame"); (case k3 => first | k_asm | fail "spec: the written part"); (case k4 => first | k_asm | fail "spec: the ledger"); (case k5 => first | k_asm | fail "spec: the top's facts"); (case kK => first | exact rfl | assumption | fail "spec: the caller is no def"); (case kd => first | (with_reducible exact roomN (by assumption) (by decide)) | ktr_room | fail "spec: room"); (case ku => first | (with_reducible exact roomN (by assumption) (by decide)) | ktr_units | fail "spec: units"); (case h1 => (dsimp only [pageLed]; kcj_all)); (case h2 => kcj_all)); intro h9 tk9 T9 t9 F9 N9 l9 l8; (try k_lt l9); (try simp only [pageLed, List.nil_append, List.cons_append] at N9); (try dsimp only); (try k_fold)))) | ((k_dflt (first   | (refine' header_str (by assumption) ?a1 ?a2 ?a3 ?a4 ?a5 ?a6 ?a7 ?a8 ?a9 ?a0 ?k1 ?k2 ?k3 ?k4 ?k5 ?kK ?kd ?ku ?h1 (by assumption) ?h2 ?_; (case a1 => assumption); (case a2 => assumption); (case a3 => assumption); (case a4 => assumption); (case a5 => assumption); (case a6 => assumption); (case a7 => assumption); (case a8 => assumption); (case a9 => assumption); (case a0 => assumption))   | (refine' header_none (by assumption) ?a1 ?a2 ?a3 ?a4 ?a5 ?a6 ?a7 ?k1 ?k2 ?k3 ?k4 ?k5 ?kK ?kd ?ku ?h1 (by assumption) ?h2 ?_; (case a1 => assumption); (case a2 => assumption); (case a3 => assumption); (case a4 => assumption); (case a5 => assumption); (case a6 => assumption); (case a7 => assumption))); ((case k1 => first | k_asm | fail "spec: the frames below"); (case k2 => first | k_asm | fail "spec: the frame"); (case k3 => first | k_asm | fail "spec: the written part"); (case k4 => first | k_asm | fail "spec: the ledger"); (case k5 => first | k_asm | fail "spec: the top's facts"); (case kK => first | exact rfl | assumption | fail "spec: the caller is no def"); (case kd => first | (with_reducible exact roomN (by assumption) (by decide)) | ktr_room | fail "spec: room"); (case ku => first | (with_reducible exact roomN (by assumption) (by decide)) | ktr_units | fail "spec: units"); (case h1 => (dsimp only [pageLed]; kcj_all)); (case h2 => kcj_all)); intro h9 tk9 T9 t9 F9 N9 l9 l8; (try k_lt l9); (try simp only [pageLed, List.nil_append, List.cons_append] at N9); (try dsimp only); (try k_fold))) | (have hz9 : NoEnter := ⟨⟩; k_enter; all_goals (try clear hz9))) | ((with_reducible show wpAny _ _ (call (Value.ref 268) [Value.int _ _]) _ _ _); first | (with_reducible (k_dflt (refine' Spec.use (law_list_spec _ _ _ ?ha) _ ?k1 ?k2 ?k3 ?k4 ?k5 ?kK ?kd ?ku (led_nil _) (led_self _) (led_none _) ?_); (case ha => k_dflt assumption); ((case k1 => first | k_asm | fail "spec: the frames below"); (case k2 => first | k_asm | k_dflt assumption | fail "spec: the frame"); (case k3 => first | k_asm | fail "spec: the written part"); (case k4 => first | k_asm | k_dflt assumption | fail "spec: the ledger"); (case k5 => first | k_asm | fail "spec: the top's facts"); (case kK => first | exact rfl | assumption | fail "spec: the caller is no def"); (case kd => first | (with_reducible exact roomN (by assumption) (by decide)) | ktr_room | fail "spec: room"); (case ku => first | (with_reducible exact roomN (by assumption) (by decide)) | ktr_units | fail "spec: units")); intro r9 h9 tk9 n9 F9 N9 _ R9; obtain ⟨⟨t9, e9⟩, e8⟩ := R9; subst e9; subst e8; (try simp only [List.nil_append, List.cons_append] at N9); (try dsimp only); (try k_fold))) | (k_dflt (refine' Spec.use (law_list_spec _ _ _ ?ha) _ ?k1 ?k2 ?k3 ?k4 ?k5 ?kK ?kd ?ku (led_nil _) (led_self _) (led_none _) ?_); (case ha => k_dflt assumption); ((case k1 => first | k_asm | fail "spec: the frames below"); (case k2 => first | k_asm | k_dflt assumption | fail "spec: the frame"); (case k3 => first | k_asm | fail "spec: the written part"); (case k4 => first | k_asm | k_dflt assumption | fail "spec: the ledger"); (case k5 => first | k_asm | fail "spec: the top's facts"); (case kK => first | exact rfl | assumption | fail "spec: the caller is no def"); (case kd => first | (with_reducible exact roomN (by assumption) (by decide)) | ktr_room | fail "spec: room"); (case ku => first | (with_reducible exact roomN (by assumption) (by decide)) | ktr_units | fail "spec: units")); intro r9 h9 tk9 n9 F9 N9 _ R9; obtain ⟨⟨t9, e9⟩, e8⟩ := R9; subst e9; subst e8; (try simp only [List.nil_append, List.cons_append] at N9); (try dsimp only); (try k_fold))) | (have hz9 : NoHalt := ⟨⟩; walk1; all_goals (try clear hz9))) | (k_unfold; (try dsimp only)) | (k_end; wrow_close) | walk1 | (dsimp only; walk1) | (leave1; walk_say "STEP leave1"; try dsimp only) | fail "no step"))
    (with_reducible rename News _ _ _ (_ :: _) => NN)
    rw [row_is (2 + tu) _ (by (first | (with_reducible first | exact tuL (by assumption) (by decide) | exact tuI (by assumption) (by decide) | exact tuJ (by assumption) (by decide) | exact Nat.zero_le _) | omega)) (by (first | (with_reducible first | exact tuL (by assumption) (by decide) | exact tuI (by assumption) (by decide) | exact tuJ (by assumption) (by decide) | exact Nat.zero_le _) | omega)), row_is (3 + tu) _ (by (first | (with_reducible first | exact tuL (by assumption) (by decide) | exact tuI (by assumption) (by decide) | exact tuJ (by assumption) (by decide) | exact Nat.zero_le _) | omega)) (by (first | (with_reducible first | exact tuL (by assumption) (by decide) | exact tuI (by assumption) (by decide) | exact tuJ (by assumption) (by decide) | exact Nat.zero_le _) | omega)), row_is (1 + tu) _ (by (first | (with_reducible first | exact tuL (by assumption) (by decide) | exact tuI (by assumption) (by decide) | exact tuJ (by assumption) (by decide) | exact Nat.zero_le _) | omega)) (by (first | (with_reducible first | exact tuL (by assumption) (by decide) | exact tuI (by assumption) (by decide) | exact tuJ (by assumption) (by decide) | exact Nat.zero_le _) | omega)), row_zero] at NN
    k_dflt (refine' join_list ?l ?i ?ok ?_)
    case l => is_list
    case i => repeat constructor
    case ok => exact join_ok6 (row_len' (by (first | (with_reducible first | exact tuL (by assumption) (by decide) | exact tuI (by assumption) (by decide) | exact tuJ (by assumption) (by decide) | exact Nat.zero_le _) | omega))) (row_len' (by (first | (with_reducible first | exact tuL (by assumption) (by decide) | exact tuI (by assumption) (by decide) | exact tuJ (by assumption) (by decide) | exact Nat.zero_le _) | omega))) (row_len' (by (first | (with_reducible first | exact tuL (by assumption) (by decide) | exact tuI (by assumption) (by decide) | exact tuJ (by assumption) (by decide) | exact Nat.zero_le _) | omega))) (row_len' (by (first | (with_reducible first | exact tuL (by assumption) (by decide) | exact tuI (by assumption) (by decide) | exact tuJ (by assumption) (by decide) | exact Nat.zero_le _) | omega)))
    intro _ _
    rw [page_join']
    (repeat' (first | (unfold Hold; first | ((with_reducible show wpAny _ _ (call (Value.builtin "str.encode") [Value.str _ _]) _ _ _); first | (with_reducible (k_dflt (refine' encode_utf8 (page_signs ?_ ?_ ?_ ?_) (Nat.le_trans (page_len ?_ ?_ ?_ ?_ ?_ ?_ ?_) (by decide)) page_ne ?_); (iterate 4 (k_dflt exact cell_signs _)); (iterate 3 ((first | (with_reducible first | exact tuL (by assumption) (by decide) | exact tuI (by assumption) (by decide) | exact tuJ (by assumption) (by decide) | exact Nat.zero_le _) | omega))); (iterate 4 (k_dflt exact cell_len _)); intro _ _)) | (k_dflt (refine' encode_utf8 (page_signs ?_ ?_ ?_ ?_) (Nat.le_trans (page_len ?_ ?_ ?_ ?_ ?_ ?_ ?_) (by decide)) page_ne ?_); (iterate 4 (k_dflt exact cell_signs _)); (iterate 3 ((first | (with_reducible first | exact tuL (by assumption) (by decide) | exact tuI (by assumption) (by decide) | exact tuJ (by assumption) (by decide) | exact Nat.zero_le _) | omega))); (iterate 4 (k_dflt exact cell_len _)); intro _ _)) | ((with_reducible show wpAny _ _ (getMethod (Value.str _ _) (Str.ofString "encode") _) _ _ _); first | (with_reducible (refine method_encode ?_)) | (refine method_encode ?_)) | ((with_reducible show codeAny _ _ _ _ _); first | (with_reducible ((k_dflt (first   | (refine' header_str (by assumption) ?a1 ?a2 ?a3 ?a4 ?a5 ?a6 ?a7 ?a8 ?a9 ?a0 ?k1 ?k2 ?k3 ?k4 ?k5 ?kK ?kd ?ku ?h1 (by assumption) ?h2 ?_; (case a1 => assumption); (case a2 => assumption); (case a3 => assumption); (case a4 => assumption); (case a5 => assumption); (case a6 => assumption); (case a7 => assumption); (case a8 => assumption); (case a9 => assumption); (case a0 => assumption))   | (refine' header_none (by assumption) ?a1 ?a2 ?a3 ?a4 ?a5 ?a6 ?a7 ?k1 ?k2 ?k3 ?k4 ?k5 ?kK ?kd ?ku ?h1 (by assumption) ?h2 ?_; (case a1 => assumption); (case a2 => assumption); (case a3 => assumption); (case a4 => assumption); (case a5 => assumption); (case a6 => assumption); (case a7 => assumption))); ((case k1 => first | k_asm | fail "spec: the frames below"); (case k2 => first | k_asm | fail "spec: the frame"); (case k3 => first | k_asm | fail "spec: the written part"); (case k4 => first | k_asm | fail "spec: the ledger"); (case k5 => first | k_asm | fail "spec: the top's facts"); (case kK => first | exact rfl | assumption | fail "spec: the caller is no def"); (case kd => first | (with_reducible exact roomN (by assumption) (by decide)) | ktr_room | fail "spec: room"); (case ku => first | (with_reducible exact roomN (by assumption) (by decide)) | ktr_units | fail "spec: units"); (case h1 => (dsimp only [pageLed]; kcj_all)); (case h2 => kcj_all)); intro h9 tk9 T9 t9 F9 N9 l9 l8; (try k_lt l9); (try simp only [pageLed, List.nil_append, List.cons_append] at N9); (try dsimp only); (try k_fold)))) | ((k_dflt (first   | (refine' header_str (by assumption) ?a1 ?a2 ?a3 ?a4 ?a5 ?a6 ?a7 ?a8 ?a9 ?a0 ?k1 ?k2 ?k3 ?k4 ?k5 ?kK ?kd ?ku ?h1 (by assumption) ?h2 ?_; (case a1 => assumption); (case a2 => assumption); (case a3 => assumption); (case a4 => assumption); (case a5 => assumption); (case a6 => assumption); (case a7 => assumption); (case a8 => assumption); (case a9 => assumption); (case a0 => assumption))   | (refine' header_none (by assumption) ?a1 ?a2 ?a3 ?a4 ?a5 ?a6 ?a7 ?k1 ?k2 ?k3 ?k4 ?k5 ?kK ?kd ?ku ?h1 (by assumption) ?h2 ?_; (case a1 => assumption); (case a2 => assumption); (case a3 => assumption); (case a4 => assumption); (case a5 => assumption); (case a6 => assumption); (case a7 => assumption))); ((case k1 => first | k_asm | fail "spec: the frames below"); (case k2 => first | k_asm | fail "spec: the frame"); (case k3 => first | k_asm | fail "spec: the written part"); (case k4 => first | k_asm | fail "spec: the ledger"); (case k5 => first | k_asm | fail "spec: the top's facts"); (case kK => first | exact rfl | assumption | fail "spec: the caller is no def"); (case kd => first | (with_reducible exact roomN (by assumption) (by decide)) | ktr_room | fail "spec: room"); (case ku => first | (with_reducible exact roomN (by assumption) (by decide)) | ktr_units | fail "spec: units"); (case h1 => (dsimp only [pageLed]; kcj_all)); (case h2 => kcj_all)); intro h9 tk9 T9 t9 F9 N9 l9 l8; (try k_lt l9); (try simp only [pageLed, List.nil_append, List.cons_append] at N9); (try dsimp only); (try k_fold))) | (have hz9 : NoEnter := ⟨⟩; k_enter; all_goals (try clear hz9))) | ((with_reducible show wpAny _ _ (call (Value.ref 268) [Value.int _ _]) _ _ _); first | (with_reducible (k_dflt (refine' Spec.use (law_list_spec _ _ _ ?ha) _ ?k1 ?k2 ?k3 ?k4 ?k5 ?kK ?kd ?ku (led_nil _) (led_self _) (led_none _) ?_); (case ha => k_dflt assumption); ((case k1 => first | k_asm | fail "spec: the frames below"); (case k2 => first | k_asm | k_dflt assumption | fail "spec: the frame"); (case k3 => first | k_asm | fail "spec: the written part"); (case k4 => first | k_asm | k_dflt assumption | fail "spec: the ledger"); (case k5 => first | k_asm | fail "spec: the top's facts"); (case kK => first | exact rfl | assumption | fail "spec: the caller is no def"); (case kd => first | (with_reducible exact roomN (by assumption) (by decide)) | ktr_room | fail "spec: room"); (case ku => first | (with_reducible exact roomN (by assumption) (by decide)) | ktr_units | fail "spec: units")); intro r9 h9 tk9 n9 F9 N9 _ R9; obtain ⟨⟨t9, e9⟩, e8⟩ := R9; subst e9; subst e8; (try simp only [List.nil_append, List.cons_append] at N9); (try dsimp only); (try k_fold))) | (k_dflt (refine' Spec.use (law_list_spec _ _ _ ?ha) _ ?k1 ?k2 ?k3 ?k4 ?k5 ?kK ?kd ?ku (led_nil _) (led_self _) (led_none _) ?_); (case ha => k_dflt assumption); ((case k1 => first | k_asm | fail "spec: the frames below"); (case k2 => first | k_asm | k_dflt assumption | fail "spec: the frame"); (case k3 => first | k_asm | fail "spec: the written part"); (case k4 => first | k_asm | k_dflt assumption | fail "spec: the ledger"); (case k5 => first | k_asm | fail "spec: the top's facts"); (case kK => first | exact rfl | assumption | fail "spec: the caller is no def"); (case kd => first | (with_reducible exact roomN (by assumption) (by decide)) | ktr_room | fail "spec: room"); (case ku => first | (with_reducible exact roomN (by assumption) (by decide)) | ktr_units | fail "spec: units")); intro r9 h9 tk9 n9 F9 N9 _ R9; obtain ⟨⟨t9, e9⟩, e8⟩ := R9; subst e9; subst e8; (try simp only [List.nil_append, List.cons_append] at N9); (try dsimp only); (try k_fold))) | (have hz9 : NoHalt := ⟨⟩; walk1; all_goals (try clear hz9))) | (k_unfold; (try dsimp only)) | (k_end; wrow_close) | walk1 | (dsimp only; walk1) | (leave1; walk_say "STEP leave1"; try dsimp only) | fail "no step"))
    (with_reducible rename News _ _ _ (_ :: _) => NE)
    rw [push4] at NE
    refine hQ _ _ _ _ _ (Flow.ret _) rfl (by k_asm) (ledEnd NE) ?_
    exact page_ret
end
end
theorem off_S6 : True := by
  w_top off
  trivial
section
section
variable {prog : Program} {w : World} {A : Around} {E : Value → Shared → Prop} {s : Shared} {K : Frag} {x C f : Addr} {ox : Obj} {od : Option Obj}
noncomputable def BytesBack (Q : Value → Shared → Prop) (v : Value) (s' : Shared) : Prop := match v with
  | .bytes a t => Q (.bytes a t) s'
  | _ => False
/-- bytes(x) of an object whose class defines __bytes__ -/
theorem call_bytes_own {Q : Value → Shared → Prop} (X : K.In s.heap) (I : InstAt s.heap x ox C od) (hs : findIn K (.ref C) "__bytes__" = some (some (.ref f))) (hf : isFn K (.ref f) = true)
    (h : wpAny (model prog w) A.in1.in1 (call (.ref f) [.ref x]) (BytesBack Q) E s) : wpAny (model prog w) A (call (.type "bytes") [.ref x]) Q E s := by
  refine callType_codes (Q₁ := fun obj s₁ => s₁.TypeIs obj "bytes" ∧ Q obj s₁) PySem.F.bm_called (PySem.F.bm_typeCall _) PySem.F.entry_object_init ?_ fun obj s₁ h₁ => ?_
  · refine codeAny_of_tree ?_
    show wpAny _ A.in1.in1 (do checkBuiltinCall "bytes.__new__" ⟨[.type "bytes", .ref x], []⟩; again (.builtin "bytes.__new__" ⟨[.type "bytes", .ref x], []⟩)) _ _ s
    refine wpAny_bind (wpAny_of_eq (PySem.F.bm_newCall _) (wpAny_pure ⟨plainId_quiet PySem.F.bm_plain _, codeAny_builtin PySem.F.bm_entry ?_⟩))
    rw [Around.under_plainId PySem.F.bm_plain _]
    unfold Builtin.«bytes.__new__»
    refine wpAny_bind (wpAny_of_eq (a := true) rfl ?_)
    refine bm_if_false rfl ?_
    refine wpAny_bind (wpAny_of_eq PySem.F.bm_sub ?_)
    refine bm_if_false rfl ?_
    refine wpAny_bind (wpAny_of_eq (PySem.F.bm_bind _) ?_)
    refine wpAny_bind (wpAny_of_eq (a := ()) rfl ?_)
    refine wpAny_bind (wpAny_of_eq (a := ()) rfl ?_)
    refine bm_if_false rfl ?_
    refine wpAny_bind (m := specialOf (.ref x) "__bytes__") (wpAny_bind (I.type.here ((looks_findIn X hs).here ?_)))
    dsimp only
    refine wpAny_bind (wpAny_rule ?_)
    refine wpAny_bind (m := callSpecial? (.ref x) (Str.ofString "__bytes__")) (special_fn X I hs (beq_iff_eq.mp hf) (wpAny_mono h (fun r s' hr => ?_) fun _ _ y => y))
    cases r <;> first | exact hr.elim | skip
    dsimp only
    refine wpAny_bind (wpAny_isInstance (typeIs_bytes _ _ _) PySem.F.bm_sub ?_)
    refine bm_if_false rfl ?_
    show wpAny _ _ (if (Value.type "bytes" == Value.type "bytes") = true then _ else _) _ _ _
    refine bm_if_true (by decide) ?_
    first
      | exact wpAny_pure ⟨typeIs_bytes _ _ _, hr⟩
      | exact wpAny_bind (wpAny_pure (wpAny_pure ⟨typeIs_bytes _ _ _, hr⟩))
  · exact ⟨h₁.1, PySem.F.args_object_init_2 obj _, object_init_meets PySem.F.bm_called.init.lookup PySem.F.bm_called.made (by decide) prog w A.in1 _ s₁ ⟨h₁.1, rfl, h₁.2⟩⟩
end
end
theorem off_S7 : True := by
  w_top off
  trivial
section
section
variable {prog : Program} {w : World} {A : Around} {E : Value → Shared → Prop} {s : Shared} {h₀ : Heap} {L p : Addr} {news : Led} {n : Nat} {a b : Str} {t ta tb : Tok} {Q : Value → Shared → Prop}
theorem mod_pair (N : News h₀ L s.heap news) (hm : (p, (⟨.type "tuple", none, .seq #[.str a ta, .str b tb] n, #[]⟩ : Obj)) ∈ news) (la : a.length ≤ 1000000) (lb : b.length ≤ 1000000) (h : ∀ t' k, Q (.str (a ++ Str.ofString ": " ++ b) t') { s with toks := k }) :
    wpAny (model prog w) A (binaryOp .Mod (.str (Str.ofString "%s: %s") t) (.ref p)) Q E s := by
  refine' KPt.mod_tuple N hm ?kptF ?kptm h
  case kptF => kpt_eq
  case kptm => kpt_run
end
end
theorem off_W8 : True := by
  w_top off
  trivial
section
theorem pair_row (k : Nat) (v : List Nat) : S (dotsN k ++ [116]) ++ Str.ofString ": " ++ S v = S (rowN k v) := by
  rw [show Str.ofString ": " = S [58, 32] from rfl, S_app, S_app]
  simp [rowN]
theorem S_len (l : List Nat) : (S l).length = l.length := by simp [Str.length]
theorem mod_head {prog : Program} {w : World} {A : Around} {E : Value → Shared → Prop} {s : Shared} {h₀ : Heap} {L p : Addr} {news : Led} {k : Nat} {v : List Nat} {t ta tb : Tok} {Q : Value → Shared → Prop} (N : News h₀ L s.heap news) (hm : (p, headT k v ta tb) ∈ news) (hk : k ≤ 10) (lv : v.length ≤ 40) (h : ∀ t' k', Q (.str (S (rowN k v)) t') { s with toks := k' }) :
    wpAny (model prog w) A (binaryOp .Mod (.str (Str.ofString "%s: %s") t) (.ref p)) Q E s := by
  refine mod_pair N hm ?_ ?_ fun t' k' => ?_
  · rw [S_len]; simp [dotsN]; omega
  · rw [S_len]; omega
  · rw [pair_row]; exact h t' k'
section
local macro_rules | `(tactic| walk_at "binaryOp Mod str ref") => `(tactic| walk_at "H")
local macro_rules | `(tactic| walk_at "call builtin:str.join") => `(tactic| walk_at "H")
theorem str_spec (w : World) (x d l T2 T0 T3 T1 : Nat) (tk : Tok) (u : Nat → Tok) (v2 v0 v3 v1 : List Nat) (l2 : v2.length ≤ 40) (l0 : v0.length ≤ 40) (l3 : v3.length ≤ 40) (l1 : v1.length ≤ 40) : Spec w 8 64 226 [.ref x] [] (headLed w.params x d l T2 T0 T3 T1 tk u v2 v0 v3 v1) (fun _ r n' => (∃ t, r = .str (S (pageN 2 3 1 v2 v0 v3 v1)) t) ∧ n' = headLed w.params x d l T2 T0 T3 T1 tk u v2 v0 v3 v1) := by
  ((refine' Spec.enter ?ho ?hcd ?hbind ?hloc ?c2 ?c3 ?c4 ?c5 ?hdd ?_); (case ho => k_is); (case hcd => k_is); (case hbind => first | exact (fun _ _ => BindsTo.of_eq rfl) | (intro _ hX; exact binds_K hX rfl (by k_is) rfl rfl rfl)); (case hloc => exact locs rfl); (case c2 => exact rfl); (case c3 => exact rfl); (case c4 => exact rfl); (case c5 => decide); (case hdd => decide); skip)
  intro loose mean mg mb dp un gd outer A₀ base g L h₁ s Q tk hB hF hX hN hT hd hu hG hQ
  (try dsimp only); (try k_fold)
  (try simp only [headLed, pageLed, List.cons_append, List.nil_append] at hN)
  (repeat' (first | (first | (with_reducible rename And (And (Ne _ _) _) _ => hz9; have := hz9.1; have := hz9.2; clear hz9) | (with_reducible rename And (Ne _ _) _ => hz9; have := hz9.1; have := hz9.2; clear hz9)) | (unfold Hold; first | ((with_reducible show wpAny _ _ (call (Value.builtin "str.join") [Value.str _ _, Value.ref _]) _ _ _); first | (with_reducible (k_dflt (refine' join_list ?l ?i ?ok ?_; (case l => is_list); (case i => repeat constructor); (case ok => exact join_ok6 (Nat.le_trans (row_len (by decide) (by assumption)) (by decide)) (Nat.le_trans (row_len (by decide) (by assumption)) (by decide)) (Nat.le_trans (row_len (by decide) (by assumption)) (by decide)) (Nat.le_trans (row_len (by decide) (by assumption)) (by decide))); rw [page_join']); intro _ _)) | (k_dflt (refine' join_list ?l ?i ?ok ?_; (case l => is_list); (case i => repeat constructor); (case ok => exact join_ok6 (Nat.le_trans (row_len (by decide) (by assumption)) (by decide)) (Nat.le_trans (row_len (by decide) (by assumption)) (by decide)) (Nat.le_trans (row_len (by decide) (by assumption)) (by decide)) (Nat.le_trans (row_len (by decide) (by assumption)) (by decide))); rw [page_join']); intro _ _)) | ((with_reducible show wpAny _ _ (binaryOp Operator.Mod (Value.str _ _) (Value.ref _)) _ _ _); first | (with_reducible (k_dflt (refine' mod_head ?k1 ?k2 ?k3 ?k4 ?_; (case k1 => k_asm); (case k2 => k_mem); (case k3 => decide); (case k4 => assumption)); intro _ _)) | (k_dflt (refine' mod_head ?k1 ?k2 ?k3 ?k4 ?_; (case k1 => k_asm); (case k2 => k_mem); (case k3 => decide); (case k4 => assumption)); intro _ _)) | (have hz9 : NoHalt := ⟨⟩; walk1; all_goals (try clear hz9))) | (k_unfold; (try dsimp only)) | (k_end; wrow_close) | walk1 | (dsimp only; walk1) | (leave1; walk_say "STEP leave1"; try dsimp only) | fail "no step"))
  (with_reducible rename News _ _ _ (_ :: _) => NN)
  exact hQ _ _ _ _ _ (Flow.ret _) rfl (by k_asm) (fun p hp => NN p (.tail _ (.tail _ (.tail _ hp)))) ⟨⟨_, rfl⟩, rfl⟩
end
end
theorem off_W9 : True := by
  w_top off
  trivial
section
section
local macro_rules | `(tactic| walk_at "call type:str") => `(tactic| walk_at "H")
local macro_rules | `(tactic| walk_at "StrBack str") => `(tactic| (unfold StrBack; dsimp only))
local macro_rules | `(tactic| walk_at "getMethod str") => `(tactic| walk_at "H")
local macro_rules | `(tactic| walk_at "call builtin:str.encode") => `(tactic| walk_at "H")
theorem bytes_spec (w : World) (x d l T2 T0 T3 T1 : Nat) (tk0 : Tok) (u : Nat → Tok) (v2 v0 v3 v1 : List Nat) (l2 : v2.length ≤ 40) (l0 : v0.length ≤ 40) (l3 : v3.length ≤ 40) (l1 : v1.length ≤ 40) (h2 : ∀ y ∈ v2, 32 ≤ y ∧ y ≤ 126) (h0 : ∀ y ∈ v0, 32 ≤ y ∧ y ≤ 126) (h3 : ∀ y ∈ v3, 32 ≤ y ∧ y ≤ 126) (h1 : ∀ y ∈ v1, 32 ≤ y ∧ y ≤ 126) : Spec w 16 128 233 [.ref x] [] (headLed w.params x d l T2 T0 T3 T1 tk0 u v2 v0 v3 v1) (fun _ r n' => (∃ t, r = .bytes (BB (pageN 2 3 1 v2 v0 v3 v1)) t) ∧ n' = headLed w.params x d l T2 T0 T3 T1 tk0 u v2 v0 v3 v1) := by
  ((refine' Spec.enter ?ho ?hcd ?hbind ?hloc ?c2 ?c3 ?c4 ?c5 ?hdd ?_); (case ho => k_is); (case hcd => k_is); (case hbind => first | exact (fun _ _ => BindsTo.of_eq rfl) | (intro _ hX; exact binds_K hX rfl (by k_is) rfl rfl rfl)); (case hloc => exact locs rfl); (case c2 => exact rfl); (case c3 => exact rfl); (case c4 => exact rfl); (case c5 => decide); (case hdd => decide); skip)
  intro loose mean mg mb dp un gd outer A₀ base g L h₁ s Q tk hB hF hX hN hT hd hu hG hQ
  (try dsimp only); (try k_fold)
  (try simp only [headLed, pageLed, List.cons_append, List.nil_append] at hN)
  have hSp := str_spec w x d l T2 T0 T3 T1 tk0 u v2 v0 v3 v1 l2 l0 l3 l1
  (repeat' (first | (unfold Hold; first | ((with_reducible show wpAny _ _ (call (Value.builtin "str.encode") [Value.str _ _, Value.str _ _]) _ _ _); first | (with_reducible (k_dflt (refine' encode_latin (page_signs ?_ ?_ ?_ ?_) (Nat.le_trans (page_len ?_ ?_ ?_ ?_ ?_ ?_ ?_) (by decide)) page_ne ?_); (iterate 4 assumption); (iterate 3 omega); (iterate 4 assumption); intro _ _)) | (k_dflt (refine' encode_latin (page_signs ?_ ?_ ?_ ?_) (Nat.le_trans (page_len ?_ ?_ ?_ ?_ ?_ ?_ ?_) (by decide)) page_ne ?_); (iterate 4 assumption); (iterate 3 omega); (iterate 4 assumption); intro _ _)) | ((with_reducible show wpAny _ _ (getMethod (Value.str _ _) (Str.ofString "encode") _) _ _ _); first | (with_reducible (refine method_encode ?_)) | (refine method_encode ?_)) | ((with_reducible show wpAny _ _ (call (Value.type "str") [Value.ref _]) _ _ _); first | (with_reducible (k_dflt (refine' kso_call ?j1 ?j2 ?j3 ?j4 ?j5 ?_; (case j1 => k_units); (case j2 => k_in); (case j3 => k_inst); (case j4 => k_is); (case j5 => k_is)); k_dflt (refine' Spec.use ?sp [] ?k1 ?k2 ?k3 ?k4 ?k5 ?kK ?kd ?ku (led_self _) (led_nil _) led_no ?_); (case sp => assumption); ((case k1 => first | k_asm | fail "spec: the frames below"); (case k2 => first | k_asm | k_dflt assumption | fail "spec: the frame"); (case k3 => first | k_asm | fail "spec: the written part"); (case k4 => first | k_asm | k_dflt assumption | fail "spec: the ledger"); (case k5 => first | k_asm | fail "spec: the top's facts"); (case kK => first | exact rfl | assumption | fail "spec: the caller is no def"); (case kd => first | (with_reducible exact roomN (by assumption) (by decide)) | ktr_room | fail "spec: room"); (case ku => first | (with_reducible exact roomN (by assumption) (by decide)) | ktr_units | fail "spec: units")); intro r9 h9 tk9 n9 F9 N9 _ R9; obtain ⟨⟨t9, e9⟩, e8⟩ := R9; subst e9; subst e8; (try simp only [headLed, pageLed, List.nil_append, List.cons_append] at N9); (try dsimp only); (try k_fold))) | (k_dflt (refine' kso_call ?j1 ?j2 ?j3 ?j4 ?j5 ?_; (case j1 => k_units); (case j2 => k_in); (case j3 => k_inst); (case j4 => k_is); (case j5 => k_is)); k_dflt (refine' Spec.use ?sp [] ?k1 ?k2 ?k3 ?k4 ?k5 ?kK ?kd ?ku (led_self _) (led_nil _) led_no ?_); (case sp => assumption); ((case k1 => first | k_asm | fail "spec: the frames below"); (case k2 => first | k_asm | k_dflt assumption | fail "spec: the frame"); (case k3 => first | k_asm | fail "spec: the written part"); (case k4 => first | k_asm | k_dflt assumption | fail "spec: the ledger"); (case k5 => first | k_asm | fail "spec: the top's facts"); (case kK => first | exact rfl | assumption | fail "spec: the caller is no def"); (case kd => first | (with_reducible exact roomN (by assumption) (by decide)) | ktr_room | fail "spec: room"); (case ku => first | (with_reducible exact roomN (by assumption) (by decide)) | ktr_units | fail "spec: units")); intro r9 h9 tk9 n9 F9 N9 _ R9; obtain ⟨⟨t9, e9⟩, e8⟩ := R9; subst e9; subst e8; (try simp only [headLed, pageLed, List.nil_append, List.cons_append] at N9); (try dsimp only); (try k_fold))) | (have hz9 : NoHalt := ⟨⟩; walk1; all_goals (try clear hz9))) | (k_unfold; (try dsimp only)) | (k_end; wrow_close) | walk1 | (dsimp only; walk1) | (leave1; walk_say "STEP leave1"; try dsimp only) | fail "no step"))
  (with_reducible rename News _ _ _ (_ :: _) => NN)
  exact hQ _ _ _ _ _ (Flow.ret _) rfl (by k_asm) NN ⟨⟨_, rfl⟩, rfl⟩
end
end
theorem off_Q1 : True := by
  w_top off
  trivial
section
namespace RS
open PySem.Sre (M ops)
variable {m : M}
theorem exec_of (ho : m.outcome = none) (ha : m.answer = none) (hpc : m.pc < m.code.size) : m.step = m.exec := by
  unfold M.step
  rw [ho, ha]
  simp [hpc]
theorem lit (h : m.code.getD m.pc 0 = 16) : m.exec = if m.pos ≥ m.lim then ({ m with seen := m.seen.add 16 } : M).say false else if (m.text.getD m.pos 0 == m.code.getD (m.pc + 1) 0) = true then ({ m with seen := m.seen.add 16, pc := m.pc + 2, pos := m.pos + 1 } : M) else ({ m with seen := m.seen.add 16 } : M).say false := by
  have hw0 : m.word 0 = 16 := h
  have hw : ops[m.word 0]? = some .LITERAL := by rw [hw0]; rfl
  have hw' : ops[m.code.getD m.pc 0]? = some .LITERAL := by rw [h]; rfl
  unfold M.exec
  rw [hw]
  dsimp only
  unfold PySem.Sre.accepts PySem.Sre.itemWidth
  simp only [hw', hw0]
  by_cases hp : m.pos ≥ m.lim
  · rw [if_pos hp, if_pos hp]
  · rw [if_neg hp, if_neg hp]
    cases (m.text.getD m.pos 0 == m.code.getD (m.pc + 1) 0) <;> rfl
theorem at_line (h : m.code.getD m.pc 0 = 6) (h1 : m.code.getD (m.pc + 1) 0 = 1) : m.exec = if (m.pos == 0 || m.text.getD (m.pos - 1) 0 == 10) = true then ({ m with seen := (m.seen.add 6).add 44, pc := m.pc + 2 } : M) else ({ m with seen := (m.seen.add 6).add 44 } : M).say false := by
  have hw0 : m.word 0 = 6 := h
  have hw1 : m.word 1 = 1 := h1
  have hw : ops[m.word 0]? = some .AT := by rw [hw0]; rfl
  unfold M.exec
  rw [hw]
  dsimp only
  simp only [hw0]
  have e1 : ∀ s, ({ m with seen := s } : M).word 1 = 1 := fun _ => h1
  simp only [e1]
  rfl
theorem success (h : m.code.getD m.pc 0 = 1) (h1 : m.wholeText = false) (h2 : m.mustAdvance = false) : m.exec = ({ m with seen := m.seen.add 1, handed := m.pos } : M).say true := by
  have hw0 : m.word 0 = 1 := h
  have hw : ops[m.word 0]? = some .SUCCESS := by rw [hw0]; rfl
  unfold M.exec
  rw [hw]
  dsimp only
  rw [hw0]
  simp [h1, h2]
theorem mark0 (h : m.code.getD m.pc 0 = 17) : m.exec = ({ m with seen := m.seen.add 17 } : M).mark (m.code.getD (m.pc + 1) 0) := by
  have hw0 : m.word 0 = 17 := h
  have hw : ops[m.word 0]? = some .MARK := by rw [hw0]; rfl
  unfold M.exec
  rw [hw]
  dsimp only
  simp only [hw0]
  rfl
end RS
noncomputable abbrev dotCode : Array Nat := #[14, 4, 0, 1, 1, 6, 1, 16, 46, 1]
/-- is a line's start, and a dot stands there -/
noncomputable def dotAt (l : List Nat) (p : Nat) : Bool := (p == 0 || l.toArray.getD (p - 1) 0 == 10) && l.toArray.getD p 0 == 46
noncomputable def nextDot (l : List Nat) : Nat → Nat → Option Nat
  | 0, _ => none
  | k + 1, p => if dotAt l p then some p else nextDot l k (p + 1)
namespace RD
open PySem.Sre (M ops)
noncomputable def fr (p : Nat) (first : Bool) : PySem.Sre.Frame := { wait := .nextStart, pc := 5, pos := p, outermost := first }
noncomputable def st (l : List Nat) (p pc pos : Nat) (first : Bool) (seen : PySem.Sre.Seen) (ans : Option Bool) : M :=
  { code := dotCode, text := l.toArray, lim := l.length, start := p, lastStart := l.length, pc := pc, pos := pos, handed := p, outermost := first, marks := #[], frames := [fr p first], weight := 1, answer := ans, seen }
variable {l : List Nat} {p pc pos : Nat} {first : Bool} {seen : PySem.Sre.Seen}
theorem one (m : M) : m.runFor 1 = m.step := by
  unfold M.runFor
  split
  · rename_i h; unfold M.step; rw [if_pos h]
  · rfl
theorem s1 : ∃ seen', (st l p 5 p first seen none).step = if (p == 0 || l.toArray.getD (p - 1) 0 == 10) = true then st l p 7 p first seen' none else st l p 5 p first seen' (some false) := by
  refine ⟨(seen.add 6).add 44, ?_⟩
  rw [RS.exec_of rfl rfl (by show 5 < 10; decide), RS.at_line rfl rfl]
  rfl
theorem s2 : ∃ seen', (st l p 7 p first seen none).step = if p ≥ l.length then st l p 7 p first seen' (some false) else if (l.toArray.getD p 0 == 46) = true then st l p 9 (p + 1) first seen' none else st l p 7 p first seen' (some false) := by
  refine ⟨seen.add 16, ?_⟩
  rw [RS.exec_of rfl rfl (by show 7 < 10; decide), RS.lit rfl]
  rfl
theorem s3 : ∃ f : M, ((st l p 9 (p + 1) first seen none).runFor 3) = f ∧ f.outcome = some .matched ∧ f.start = p ∧ f.handed = p + 1 := by
  refine ⟨_, rfl, ?_⟩
  have e1 : (st l p 9 (p + 1) first seen none).step = ({ st l p 9 (p + 1) first (seen.add 1) (some true) with handed := p + 1 } : M) := by
    rw [RS.exec_of rfl rfl (by show 9 < 10; decide), RS.success rfl rfl rfl]
    rfl
  rw [show (3 : Nat) = 1 + 2 from rfl, runFor_add, one, e1]
  exact ⟨rfl, rfl, rfl⟩
theorem s4 : (st l p pc pos first seen (some false)).step = if p < l.length then st l (p + 1) 5 (p + 1) false seen none else ({ st l p 5 p first seen (some false) with frames := [], weight := 0 } : M) := by
  rfl
theorem s5 : (({ st l p 5 p first seen (some false) with frames := [], weight := 0 } : M).runFor 1).outcome = some .failed := by
  rw [one]; rfl
theorem run_add {a b : Nat} {m m' f : M} (h1 : m.runFor a = m') (h2 : m'.runFor b = f) : m.runFor (a + b) = f := by rw [runFor_add, h1, h2]
theorem fails (hd : dotAt l p = false) : ∃ n pc seen', n ≤ 2 ∧ (st l p 5 p first seen none).runFor n = st l p pc p first seen' (some false) := by
  obtain ⟨q1, e1⟩ := s1 (l := l) (p := p) (first := first) (seen := seen)
  unfold dotAt at hd
  by_cases hc : (p == 0 || l.toArray.getD (p - 1) 0 == 10) = true
  · rw [if_pos hc] at e1
    rw [hc, Bool.true_and] at hd
    obtain ⟨q2, e2⟩ := s2 (l := l) (p := p) (first := first) (seen := q1)
    refine ⟨1 + 1, 7, q2, by decide, run_add (by rw [one, e1]) ?_⟩
    rw [one, e2]
    split
    · rfl
    · rw [hd]; rfl
  · rw [if_neg hc] at e1
    exact ⟨1, 5, q1, by decide, by rw [one, e1]⟩
theorem search : ∀ (k p : Nat) (first : Bool) (seen : PySem.Sre.Seen), l.length - p = k → p ≤ l.length → ∃ n f, n ≤ 3 * k + 5 ∧ (st l p 5 p first seen none).runFor n = f ∧
    match nextDot l k p with
    | some q => f.outcome = some .matched ∧ f.start = q ∧ f.handed = q + 1
    | none => f.outcome = some .failed
  | 0, p, first, seen, hk, hp => by
    have hpl : ¬ p < l.length := by omega
    have hd : dotAt l p = false := by
      unfold dotAt
      have : l.toArray.getD p 0 = 0 := by simp [Array.getD, hpl]
      rw [this]; simp
    obtain ⟨n, pc, seen', hn, e⟩ := fails (first := first) (seen := seen) hd
    refine ⟨n + (1 + 1), _, by omega, run_add e (run_add (by rw [one, s4, if_neg hpl]) rfl), ?_⟩
    exact s5
  | k + 1, p, first, seen, hk, hp => by
    have hpl : p < l.length := by omega
    unfold nextDot
    cases hd : dotAt l p with
    | true =>
      simp only [if_true]
      unfold dotAt at hd
      rw [Bool.and_eq_true] at hd
      obtain ⟨q1, e1⟩ := s1 (l := l) (p := p) (first := first) (seen := seen)
      rw [if_pos hd.1] at e1
      obtain ⟨q2, e2⟩ := s2 (l := l) (p := p) (first := first) (seen := q1)
      rw [if_neg (by omega), if_pos hd.2] at e2
      obtain ⟨f, e3, h⟩ := s3 (l := l) (p := p) (first := first) (seen := q2)
      exact ⟨1 + (1 + 3), f, by omega, run_add (by rw [one, e1]) (run_add (by rw [one, e2]) e3), h⟩
    | false =>
      simp only [Bool.false_eq_true, if_false]
      obtain ⟨n, pc, seen', hn, e⟩ := fails (first := first) (seen := seen) hd
      obtain ⟨n2, f, hn2, e2, h⟩ := search k (p + 1) false seen' (by omega) (by omega)
      exact ⟨n + (1 + n2), f, by omega, run_add e (run_add (by rw [one, s4, if_pos hpl]) e2), h⟩
/-- the search that begins at p -/
theorem forSearch_run (l : List Nat) (p : Nat) (hp : p ≤ l.length) (hl : l.length ≤ 10000000) : ∃ n f, n ≤ 100000000 ∧ (PySem.Sre.forSearch dotCode l.toArray 0 p l.length false).runFor n = f ∧
    match nextDot l (l.length - p) p with
    | some q => f.outcome = some .matched ∧ f.start = q ∧ f.handed = q + 1
    | none => f.outcome = some .failed := by
  by_cases hlt : p < l.length
  · have e : PySem.Sre.forSearch dotCode l.toArray 0 p l.length false = st l p 5 p true (({} : PySem.Sre.Seen).add 14) none := by
      unfold PySem.Sre.forSearch
      show (if (decide (p > l.length) || decide (l.length - p < 1)) = true then _ else _) = _
      rw [if_neg (by simp; omega)]
      rfl
    rw [e]
    obtain ⟨n, f, hn, e2, h⟩ := search (l := l) (l.length - p) p true (({} : PySem.Sre.Seen).add 14) rfl hp
    exact ⟨n, f, by omega, e2, h⟩
  · have hk : l.length - p = 0 := by omega
    rw [hk]
    refine ⟨1, _, by decide, rfl, ?_⟩
    show M.outcome _ = _
    rw [one]
    unfold PySem.Sre.forSearch
    show M.outcome (M.step (if (decide (p > l.length) || decide (l.length - p < 1)) = true then _ else _)) = _
    rw [if_pos (by simp; omega)]
    rfl
end RD
end
theorem off_Q2 : True := by
  w_top off
  trivial
section
inductive BytesAre : List Value → List (List Nat) → Prop
  | nil : BytesAre [] []
  | cons (l : List Nat) (t : Tok) {vs ls} (h : BytesAre vs ls) : BytesAre (.bytes (BB l) t :: vs) (l :: ls)
namespace BytesAre
theorem length {vs ls} (h : BytesAre vs ls) : vs.length = ls.length := by
  induction h with
  | nil => rfl
  | cons l t _ ih => exact congrArg Nat.succ ih
theorem at_ {vs ls} (h : BytesAre vs ls) : ∀ (i : Nat) (hi : i < ls.length), ∃ t, vs[i]? = some (.bytes (BB ls[i]) t) := by
  induction h with
  | nil => exact fun i hi => absurd hi (Nat.not_lt_zero _)
  | cons l t _ ih =>
    intro i hi
    cases i with
    | zero => exact ⟨t, rfl⟩
    | succ i => exact ih i (Nat.lt_of_succ_lt_succ hi)
theorem snoc {vs ls} (h : BytesAre vs ls) : ∀ (l : List Nat) (t : Tok), BytesAre (vs ++ [.bytes (BB l) t]) (ls ++ [l]) := by
  induction h with
  | nil => exact fun l t => .cons l t .nil
  | cons a b _ ih => exact fun l t => .cons a b (ih l t)
theorem noHeap {vs ls} (h : BytesAre vs ls) : ∀ v ∈ vs, v.onHeap = false := by
  induction h with
  | nil => exact fun v hv => nomatch hv
  | cons l t _ ih =>
    intro v hv
    cases hv with
    | head => rfl
    | tail _ hv => exact ih v hv
end BytesAre
theorem BB_size (l : List Nat) : (BB l).size = l.length := by simp [BB]
theorem BB_app (a b : List Nat) : BB a ++ BB b = BB (a ++ b) := by simp [BB]
section
open PySem.Builtin PySem.Builtin.Bytes
theorem takeBuffer_eq (b : Array UInt8) (t : Tok) (id : String) : takeBufferQuiet? id (.bytes b t) 0 = pure (some (b, none)) := by
  have e : takeBuffer? id (.bytes b t) 0 = pure (some (b, none)) := by
    unfold takeBuffer?
    rw [KBy.special_eq KBy.look_buffer, KBy.own_buffer]
    show (do return (← buffer? id (.bytes b t) _).map (·, none)) = _
    have e2 : buffer? id (.bytes b t) (full := (0 : Int) == fullReadOnly) = pure (some b) := by
      rw [show ((0 : Int) == fullReadOnly) = false from rfl]
      exact KBy.buffer_eq
    rw [e2]
    rfl
  unfold takeBufferQuiet?
  rw [e]
  rfl
theorem joined_go : ∀ (ls : List (List Nat)) (i : Nat) (acc : Array UInt8), ((ls.map BB).zipIdx i).foldl (fun out (x : Array UInt8 × Nat) => (if x.2 > 0 then out ++ (#[] : Array UInt8) else out) ++ x.1) acc = acc ++ BB ls.flatten
  | [], i, acc => by simp [BB]
  | l :: r, i, acc => by
    simp only [List.map_cons, List.zipIdx_cons, List.foldl_cons]
    rw [joined_go r]
    have : (if i > 0 then acc ++ (#[] : Array UInt8) else acc) = acc := by split <;> simp
    rw [this, Array.append_assoc, BB_app]
    rfl
theorem joined_is (ls : List (List Nat)) : joined #[] (ls.map BB) = BB ls.flatten := by
  unfold joined
  have := joined_go ls 0 #[]
  rw [Array.empty_append] at this
  exact this
section
variable {M : Model} {A : Around} {E : Value → Shared → Prop} {s : Shared}
theorem loop_inv {β : Type} (I : Nat → β) {f : Nat → β → Sem (ForInStep β)} {n : Nat} {Q : β → Shared → Prop} (hstep : ∀ i, i < n → ∀ Q' : ForInStep β → Shared → Prop, Q' (.yield (I (i + 1))) s → wpAny M A (f i (I i)) Q' E s) (hQ : Q (I n) s) :
    ∀ k i, i + k = n → wpAny M A (forIn (List.range' i k 1) (I i) f) Q E s
  | 0, i, h => by
    have : i = n := by omega
    subst this
    exact wpAny_pure hQ
  | k + 1, i, h => by
    rw [List.range'_succ]
    refine KPc.turn (hstep i (by omega) _ ?_)
    exact loop_inv I hstep hQ k (i + 1) (by omega)
theorem joinLetGo_none {keep : List Value} {Q : Unit → Shared → Prop} (h : Q () s) : ∀ vs : List Value, wpAny M A (joinLetGo (vs.map (·, none)) keep) Q E s
  | [] => wpAny_pure h
  | v :: r => by
    show wpAny M A (joinLetGo ((v, none) :: r.map (·, none)) keep) Q E s
    unfold joinLetGo
    first
      | exact wpAny_bind (wpAny_letGo (joinLetGo_none h r))
      | exact wpAny_bind (wpAny_pure (wpAny_bind (wpAny_letGo (joinLetGo_none h r))))
end
section
variable {M : Model} {A : Around} {E : Value → Shared → Prop} {s : Shared}
theorem noany {vs : List Value} (h : ∀ v ∈ vs, v.onHeap = false) (i : Nat) : (Kind.bytes == Kind.bytearray || ((vs.take i).map (fun x => (x, (none : Option Value)))).any fun x => x.fst.onHeap) = false := by
  rw [show (Kind.bytes == Kind.bytearray) = false from rfl, Bool.false_or, List.any_eq_false]
  intro x hx
  obtain ⟨v, hv, rfl⟩ := List.mem_map.mp hx
  rw [h v (List.mem_of_mem_take hv)]
  exact Bool.false_ne_true
theorem fold_sizes : ∀ (ls : List (List Nat)) (k : Nat), (ls.map BB).foldl (fun a b => a + b.size) k = k + ls.flatten.length
  | [], k => rfl
  | l :: r, k => by
    simp only [List.map_cons, List.foldl_cons]
    rw [fold_sizes r]
    simp [BB]; omega
theorem short_all (ls : List (List Nat)) (m : Nat) (hz : ls.flatten.length ≤ 100000) : tooLong (Array.foldl (fun x1 x2 => x1 + x2.size) ((#[] : Array UInt8).size * m) (ls.map BB).toArray) = false := by
  refine KBy.tooLong_not ?_
  have : Array.foldl (fun x1 (x2 : Array UInt8) => x1 + x2.size) ((#[] : Array UInt8).size * m) (ls.map BB).toArray = (#[] : Array UInt8).size * m + ls.flatten.length := by
    rw [← fold_sizes ls, ← Array.foldl_toList]
  rw [this]
  simp only [List.size_toArray, List.length_nil, Nat.zero_mul]
  omega
theorem join_wp {u : Tok} {D : Addr} {items : Array Value} {n : Nat} {o : Obj} {ls : List (List Nat)} {Q : Fin → Shared → Prop} (ho : s.heap.get? D = some o) (hc : o.cls = .type "list") (hd : o.data = .seq items n) (hb : BytesAre items.toList ls) (hz : ls.flatten.length ≤ 100000) (hn : ls.length ≤ 100000)
    (h : ∀ t' k, Q (.done (.ret (.bytes (BB ls.flatten) t'))) { s with toks := k }) : wpAny M A («bytes.join» ⟨[.bytes #[] u, .ref D], []⟩) Q E s := by
  have hT : s.TypeIs (.ref D) "list" := ⟨o, ho, hc⟩
  show wpAny M A (joinM .bytes ⟨[.bytes #[] u, .ref D], []⟩) Q E s
  unfold joinM
  refine wpAny_bind (wpAny_of_eq (a := (Value.bytes #[] u, Value.ref D)) rfl ?_)
  dsimp only
  refine wpAny_bind ?_
  show wpAny M A (joinItems (.ref D)) _ E s
  unfold joinItems
  refine wpAny_bind (wpAny_typeOf hT ?_)
  show wpAny M A (pure (Value.ref D)) _ E s
  refine wpAny_pure ?_
  refine wpAny_bind (wpAny_seqItems ho hd ?_)
  dsimp only
  refine bm_if_true (c := Kind.bytes == Kind.bytes) (b := _ >>= _) (by decide) ?_
  have loop : ∀ {f : Nat → Array (Array UInt8) × List (Value × Option Value) → Sem (ForInStep (Array (Array UInt8) × List (Value × Option Value)))} {Q' : Array (Array UInt8) × List (Value × Option Value) → Shared → Prop},
      (∀ i, (hi : i < ls.length) → ∀ (t : Tok) (Q'' : ForInStep (Array (Array UInt8) × List (Value × Option Value)) → Shared → Prop), items.getD i .none = .bytes (BB ls[i]) t →
        Q'' (.yield (((ls.take i).map BB).toArray.push (BB ls[i]), (items.toList.take i).map (·, none) ++ [(.bytes (BB ls[i]) t, none)])) s → wpAny M A (f i (((ls.take i).map BB).toArray, (items.toList.take i).map (·, none))) Q'' E s) →
      Q' ((ls.map BB).toArray, items.toList.map (·, none)) s → wpAny M A (forIn [:items.size] ((#[] : Array (Array UInt8)), ([] : List (Value × Option Value))) f) Q' E s := by
    intro f Q' hstep hQ
    rw [KPc.range_list]
    have hsz : items.size = ls.length := by rw [← hb.length]; simp
    refine loop_inv (fun i => (((ls.take i).map BB).toArray, (items.toList.take i).map (·, none))) (n := ls.length) (fun i hi Q'' hq => ?_) ?_ items.size 0 (by omega)
    · obtain ⟨t, e⟩ := hb.at_ i hi
      have e2 : items.getD i .none = .bytes (BB ls[i]) t := by
        have e3 : items[i]? = some (.bytes (BB ls[i]) t) := by simpa using e
        simp [Array.getD_eq_getD_getElem?, e3]
      refine hstep i hi t Q'' e2 ?_
      have e4 : ((ls.take (i + 1)).map BB).toArray = ((ls.take i).map BB).toArray.push (BB ls[i]) := by
        rw [List.take_add_one, List.getElem?_eq_getElem hi]
        simp only [Option.toList_some, List.map_append, List.map_cons, List.map_nil, List.push_toArray]
      have e5 : (items.toList.take (i + 1)).map (fun x => (x, (none : Option Value))) = (items.toList.take i).map (·, none) ++ [(.bytes (BB ls[i]) t, none)] := by
        rw [List.take_add_one, e]; simp
      rw [← e4, ← e5]
      exact hq
    · have e1 : ls.take ls.length = ls := List.take_length
      have e2 : items.toList.take ls.length = items.toList := by rw [← hb.length]; exact List.take_length
      rw [e1, e2]; exact hQ
  rcases items with ⟨_ | ⟨x, _ | ⟨y, r⟩⟩⟩
  rotate_left 1
  · have hb' : BytesAre [x] ls := hb
    cases hb' with
    | cons l t hr =>
      cases hr
      refine wpAny_bind (wpAny_typeOf (typeIs_bytes _ _ _) ?_)
      refine bm_if_true rfl (wpAny_bind (wpAny_rule ?_))
      have e : [l].flatten = l := by simp
      have h' := h t s.toks
      rw [e] at h'
      exact wpAny_pure h'
  all_goals
    refine wpAny_bind (loop (fun i hi t Q'' e hq => ?_) ?_)
    · dsimp only
      refine wpAny_bind (wpAny_seqItems ho hd ?_)
      dsimp only
      rw [e]
      refine bm_if_false (noany hb.noHeap i) ?_
      refine wpAny_bind (wpAny_holding (wpAny_of_eq (takeBuffer_eq _ _ _) ?_))
      dsimp only
      refine wpAny_bind (wpAny_seqItems ho hd ?_)
      dsimp only
      exact bm_if_false (by simp) (wpAny_pure hq)
    · dsimp only
      refine wpAny_bind (wpAny_of_eq (a := #[]) rfl ?_)
      refine bm_if_false (short_all ls _ hz) ?_
      refine wpAny_bind ?_
      show wpAny M A (mkBytes (joined #[] (ls.map BB))) _ E s
      rw [joined_is]
      refine wpAny_mkBytes ?_ (by rw [sizeLine_eq, BB_size]; omega)
      refine wpAny_bind (wpAny_holding (wpAny_point ?_))
      refine wpAny_bind (joinLetGo_none ?_ _)
      exact wpAny_pure (h _ _)
end
end
namespace RF
theorem slot_join : Slot "bytes" "join" "bytes.join" :=
  .of (owner := "bytes") (n := "join") (by rw [typeLookup_type, builtinLookup_eq_fast]; kernel_rfl) (by decide +kernel) (by decide +kernel) (by decide +kernel)
    (by first | exact .inl (by decide +kernel) | exact .inr (by decide +kernel)) (by rw [isSubtype_type]; kernel_rfl)
theorem type_join : typeOf (.builtin "bytes.join") = pure (.type "method_descriptor") := by show builtinType _ = _; rw [builtinType_eq_fast]; kernel_rfl
theorem entry_join : entryFor table "bytes.join" = some Builtin.«bytes.join» := entryFor_of_tree (by kernel_rfl)
theorem args_join (a b : Value) : argsOk "bytes.join" ⟨[a, b], []⟩ := by unfold argsOk; rw [signature?_of (id := "bytes.join") (n := ['n', 'i', 'o', 'j']) (o := ['s', 'e', 't', 'y', 'b']) (by kernel_rfl) FB.owner_bytes]; kernel_rfl
end RF
theorem join_call {prog : Program} {w : World} {A : Around} {E : Value → Shared → Prop} {s : Shared} {u : Tok} {D : Addr} {items : Array Value} {n : Nat} {o : Obj} {ls : List (List Nat)} {Q : Value → Shared → Prop} (ho : s.heap.get? D = some o) (hc : o.cls = .type "list") (hd : o.data = .seq items n) (hb : BytesAre items.toList ls) (hz : ls.flatten.length ≤ 100000) (hn : ls.length ≤ 100000)
    (h : ∀ t' k, Q (.bytes (BB ls.flatten) t') { s with toks := k }) : wpAny (model prog w) A (call (.builtin "bytes.join") [.bytes #[] u, .ref D]) Q E s := by
  refine call_meets (S := fun _ R s' => s' = s ∧ ∀ t' k, R (.ok (.ret (.bytes (BB ls.flatten) t'))) { s with toks := k }) RF.slot_join (typeIs_bytes _ _ _) RF.entry_join (RF.args_join _ _) ?_ ⟨rfl, h⟩
  refine .of_wp fun prog w A R s' hS => ?_
  obtain ⟨rfl, hr⟩ := hS
  exact join_wp ho hc hd hb hz hn fun t' k => ⟨_, rfl, hr t' k⟩
end
theorem off_Q3 : True := by
  w_top off
  trivial
section
/-- what _quote_periods makes of a text -/
noncomputable def quote : Bool → List Nat → List Nat
  | _, [] => []
  | b, c :: r => (if (b && c == 46) = true then [46, 46] else [c]) ++ quote (c == 10) r
noncomputable def atStart (l : List Nat) (p : Nat) : Bool := p == 0 || l.toArray.getD (p - 1) 0 == 10
noncomputable def quoteFrom (l : List Nat) (p : Nat) : List Nat := quote (atStart l p) (l.drop p)
theorem quoteFrom_end {l : List Nat} {p : Nat} (h : l.length ≤ p) : quoteFrom l p = [] := by
  unfold quoteFrom
  rw [List.drop_eq_nil_of_le h]
  rfl
theorem getD_lt {l : List Nat} {p : Nat} (h : p < l.length) : l.toArray.getD p 0 = l[p] := by simp [Array.getD, h]
theorem quoteFrom_step {l : List Nat} {p : Nat} (h : p < l.length) : quoteFrom l p = (if dotAt l p = true then [46, 46] else [l[p]]) ++ quoteFrom l (p + 1) := by
  unfold quoteFrom
  rw [List.drop_eq_getElem_cons h]
  have e1 : dotAt l p = (atStart l p && l[p] == 46) := by unfold dotAt atStart; rw [getD_lt h]
  have e2 : atStart l (p + 1) = (l[p] == 10) := by
    unfold atStart
    rw [show (p + 1 == 0) = false by simp, Bool.false_or, Nat.add_sub_cancel, getD_lt h]
  rw [e1, e2]
  rfl
theorem next_none {l : List Nat} : ∀ (k p : Nat), l.length - p = k → nextDot l k p = none → quoteFrom l p = l.drop p
  | 0, p, hk, _ => by rw [quoteFrom_end (by omega), List.drop_eq_nil_of_le (by omega)]
  | k + 1, p, hk, e => by
    have hp : p < l.length := by omega
    unfold nextDot at e
    cases hd : dotAt l p with
    | true => rw [hd] at e; simp at e
    | false =>
      rw [hd] at e
      rw [quoteFrom_step hp, hd, next_none k (p + 1) (by omega) (by simpa using e), List.drop_eq_getElem_cons hp]
      rfl
theorem next_some {l : List Nat} : ∀ (k p q : Nat), l.length - p = k → nextDot l k p = some q → p ≤ q ∧ q < l.length ∧ quoteFrom l p = (l.drop p).take (q - p) ++ ([46, 46] ++ quoteFrom l (q + 1))
  | 0, p, q, _, e => by unfold nextDot at e; cases e
  | k + 1, p, q, hk, e => by
    have hp : p < l.length := by omega
    unfold nextDot at e
    cases hd : dotAt l p with
    | true =>
      rw [hd] at e
      simp only [if_true] at e
      cases e
      refine ⟨Nat.le_refl _, hp, ?_⟩
      rw [quoteFrom_step hp, hd, Nat.sub_self]
      rfl
    | false =>
      rw [hd] at e
      obtain ⟨h1, h2, h3⟩ := next_some (l := l) k (p + 1) q (by omega) (by simpa using e)
      refine ⟨by omega, h2, ?_⟩
      rw [quoteFrom_step hp, hd, h3, List.drop_eq_getElem_cons hp, show q - p = (q - (p + 1)) + 1 by omega, List.take_succ_cons]
      rfl
theorem extract_BB (l : List Nat) (p q : Nat) : (l.toArray.extract p q).map (·.toUInt8) = BB ((l.drop p).take (q - p)) := by
  apply Array.ext'
  simp only [Array.toList_map, Array.toList_extract]
theorem map_BB {l : List Nat} (h : ∀ y ∈ l, y < 256) : (BB l).map (·.toNat) = l.toArray := by
  apply Array.ext'
  simp only [BB, Array.toList_map, List.map_map]
  refine Eq.trans (List.map_congr_left fun y hy => ?_) (List.map_id l)
  show (UInt8.toNat (Nat.toUInt8 y)) = y
  have := h y hy
  simp [Nat.toUInt8, UInt8.toNat_ofNat', Nat.mod_eq_of_lt this]
section
open PySem.Builtin PySem.Builtin.Re
variable {M : Model} {A : Around} {E : Value → Shared → Prop} {s : Shared} {P T D : Addr} {fs items : Array Value} {code : Array Nat} {kind groups : Nat}
theorem PatAt.other {h h' : Heap} (p : PatAt h P T fs items code kind groups) (h1 : h'.get? P = h.get? P) (h2 : h'.get? T = h.get? T) : PatAt h' P T fs items code kind groups := by
  obtain ⟨⟨o, ho, r⟩, a, b, c, ⟨o2, n, ho2, r2⟩, d⟩ := p
  exact ⟨⟨o, h1.trans ho, r⟩, a, b, c, ⟨o2, n, h2.trans ho2, r2⟩, d⟩
theorem textOf_bytes (b : Array UInt8) (t : Tok) : reTextOf (.bytes b t) = pure (b.map (·.toNat), 1) := by
  unfold reTextOf
  rw [KBy.quiet_eq]
  rfl
theorem whole_bytes {b : Array UInt8} {t : Tok} {Q : ReTarget → Shared → Prop} (p : PatAt s.heap P T fs items code 1 groups)
    (h : Q { pattern := .ref P, string := .bytes b t, code, text := b.map (·.toNat), kind := 1, groups, pos := 0, lim := (b.map (·.toNat)).size } s) : wpAny M A (reWholeTarget (.ref P) (.bytes b t)) Q E s := by
  obtain ⟨⟨o, ho, hd, _⟩, h5, h6, h2, ht, hc⟩ := p
  unfold reWholeTarget
  refine wpAny_bind (wpAny_fieldsOf ho hd ?_)
  refine wpAny_bind (wpAny_of_eq (textOf_bytes b t) ?_)
  dsimp only
  rw [h6, h5, h2]
  refine wpAny_bind ?_
  unfold reNoCollectionInside
  refine bm_if_true rfl ?_
  refine wpAny_bind (wpAny_of_eq KBy.isInstance_eq ?_)
  refine wpAny_pure ?_
  refine wpAny_bind (rawItems ht (wpAny_pure ?_))
  rw [hc]
  exact h
end
namespace RF
theorem plain_loop : plainId "re.Pattern.sub.loop" = true := by decide +kernel
end RF
section
open PySem.Builtin PySem.Builtin.Re
variable {prog : Program} {w : World} {A : Around} {E : Value → Shared → Prop} {P T D : Addr} {fs items : Array Value}
theorem slice_bytes {M : Model} {A : Around} {s : Shared} {l : List Nat} {p q : Nat} {Q : Value → Shared → Prop} (hl : l.length ≤ 100000) (h : ∀ t k, Q (.bytes (BB ((l.drop p).take (q - p))) t) { s with toks := k }) : wpAny M A (reSlice l.toArray 1 p q) Q E s := by
  unfold reSlice
  show wpAny M A (mkBytes _) Q E s
  rw [extract_BB]
  refine wpAny_mkBytes (h _ _) ?_
  rw [BB_size, sizeLine_eq]
  simp; omega
theorem push_piece {M : Model} {A : Around} {s : Shared} {vs : Array Value} {n : Nat} {v : Value} {Q : Unit → Shared → Prop} (hD : s.heap.get? D = some (listOf vs n)) (hz : vs.size ≤ 100000)
    (h : ∀ h' n', (∀ b, b ≠ D → h'.get? b = s.heap.get? b) → h'.get? D = some (listOf (vs.push v) n') → Q () { s with heap := h' }) : wpAny M A (updateSeq D (·.push v)) Q E s := by
  refine wpAny_updateSeq hD rfl (h _ (n + 1) (fun b hb => Heap.get?_update_other _ _ (Ne.symm hb)) ?_) (by rw [sizeLine_eq]; omega) (by rw [sizeLine_eq, Array.size_push]; omega)
  rw [Heap.get?_update_self (Obj.mapSeq (·.push v)) hD rfl]
  simp [Obj.mapSeq, W.listOf]
theorem literal_ok {M : Model} {A : Around} {s : Shared} {b : Array UInt8} {u : Tok} {Q : Unit → Shared → Prop} (h : Q () s) : wpAny M A (reLiteralCannotBeTurned (.bytes b u)) Q E s := by
  unfold reLiteralCannotBeTurned
  refine wpAny_bind (wpAny_of_eq (a := none) rfl ?_)
  refine bm_if_true rfl ?_
  exact wpAny_bind (wpAny_of_eq KBy.isInstance_eq (wpAny_pure h))
theorem sub_tail {l : List Nat} {s : Shared} {vs : Array Value} {n : Nat} {ls : List (List Nat)} {Q : Fin → Shared → Prop} (hD : s.heap.get? D = some (listOf vs n)) (hb : BytesAre vs.toList ls) (hz : ls.flatten.length ≤ 100000) (hn : ls.length ≤ 100000)
    (h : ∀ t' k, Q (.done (.ret (.bytes (BB ls.flatten) t'))) { s with toks := k }) :
    wpAny (model prog w) A (do
      let joiner ← reSlice l.toArray 1 0 0
      let r ← seqItems? (.ref D)
      if (r.getD #[]).isEmpty = true then do
        let x ← pure joiner
        ret x
      else do
        let x ← call (.builtin (if (1 == 0) = true then "str.join" else "bytes.join")) [joiner, .ref D]
        ret x) Q E s := by
  refine wpAny_bind ?_
  unfold reSlice
  show wpAny _ _ (mkBytes _) _ _ _
  rw [extract_BB]
  refine wpAny_mkBytes ?_ (by rw [BB_size, sizeLine_eq]; simp)
  refine wpAny_bind (wpAny_seqItems hD rfl ?_)
  dsimp only [Option.getD_some]
  have e0 : BB ((l.drop 0).take (0 - 0)) = #[] := by simp [BB]
  rw [e0]
  by_cases he : vs.isEmpty = true
  · refine wpAny_ite (KPc.ite_yes he ?_)
    have : vs = #[] := Array.isEmpty_iff.mp he
    subst this
    cases hb
    refine wpAny_bind (wpAny_pure (wpAny_pure ?_))
    exact h _ _
  · refine wpAny_ite (KPc.ite_no he ?_)
    refine wpAny_bind ?_
    show wpAny _ _ (call (.builtin "bytes.join") [_, _]) _ _ _
    exact join_call (D := D) (s := { s with toks := _ }) hD rfl rfl hb hz hn fun t' k => wpAny_pure (h _ _)
/-- the loop of sub, from p on -/
theorem sub_loop {l : List Nat} {t u : Tok} (hs : ∀ y ∈ l, y < 256) (hl : l.length ≤ 10000) (hPD : P ≠ D) (hTD : T ≠ D) :
    ∀ (k p : Nat) (s : Shared) (vs : Array Value) (n : Nat) (c : Int) (ls : List (List Nat)) (R : Result → Shared → Prop), l.length - p = k → p ≤ l.length → PatAt s.heap P T fs items dotCode 1 0 → s.heap.get? D = some (listOf vs n) → BytesAre vs.toList ls → ls.length ≤ 2 * p → (ls.flatten ++ quoteFrom l p).length ≤ 100000 →
      (∀ h' t' k', (∀ b, b ≠ D → h'.get? b = s.heap.get? b) → R (.ok (.ret (.bytes (BB (ls.flatten ++ quoteFrom l p)) t'))) { s with heap := h', toks := k' }) →
      codeAny (model prog w) A (.builtin "re.Pattern.sub.loop" ⟨[.ref P, .bytes (BB l) t, .bytes (BB [46, 46]) u, rawInt 0, rawInt 0, rawInt c, rawInt p, rawInt p, .bool false, .ref D, .bool false], []⟩) R s := by
  intro k
  induction k using Nat.strongRecOn with
  | ind k ih =>
    intro p s vs n c ls R hk hp hP hD hb h2 hz hR
    have hvs : vs.size = ls.length := by rw [← hb.length]; simp
    have hl5 : ls.length ≤ 20000 := Nat.le_trans h2 (Nat.mul_le_mul_left 2 (Nat.le_trans hp hl))
    have hv5 : vs.size ≤ 20000 := hvs ▸ hl5
    refine codeAny_builtin RF.entry_loop ?_
    rw [Around.under_plainId RF.plain_loop _]
    unfold Builtin.«re.Pattern.sub.loop»
    dsimp only [rawInt]
    refine wpAny_bind (whole_bytes hP ?_)
    rw [map_BB hs]
    have e0 : ((p : Int)).toNat = p := Int.toNat_natCast p
    simp only [e0, List.size_toArray]
    show wpAny _ A.in1 (reLiteralCannotBeTurned _ >>= _) _ _ s
    refine wpAny_bind (literal_ok ?_)
    refine wpAny_bind ?_
    show wpAny _ A.in1 (reNextFound _ p false) _ _ s
    unfold reNextFound
    obtain ⟨nn, f, hn, e, hf⟩ := RD.forSearch_run l p hp (Nat.le_trans hl (by decide))
    cases hq : nextDot l (l.length - p) p with
    | none =>
      rw [hq] at hf
      refine run_end e hn false hf ?_
      simp only [Bool.false_eq_true, if_false]
      by_cases hpl : p < l.length
      · refine wpAny_ite (KPc.ite_yes hpl ?_)
        refine wpAny_bind (slice_bytes (Nat.le_trans hl (by decide)) fun t1 k1 => ?_)
        rw [show (l.drop p).take (l.length - p) = l.drop p from List.take_of_length_le (by simp)]
        refine wpAny_bind (push_piece hD (Nat.le_trans hv5 (by decide)) fun h1 n1 hk1 hD1 => ?_)
        have hfl : (ls ++ [l.drop p]).flatten = ls.flatten ++ quoteFrom l p := by
          rw [next_none _ p rfl hq]; simp
        refine sub_tail hD1 (by rw [Array.toList_push]; exact hb.snoc _ _) (by rw [hfl]; exact hz) (by simp; exact Nat.le_trans hl5 (by decide)) fun t2 k2 => ?_
        rw [hfl]
        exact hR h1 t2 k2 hk1
      · refine wpAny_ite (KPc.ite_no hpl ?_)
        have hfl : ls.flatten = ls.flatten ++ quoteFrom l p := by
          rw [quoteFrom_end (Nat.le_of_not_lt hpl), List.append_nil]
        refine sub_tail hD hb (by rw [hfl]; exact hz) (Nat.le_trans hl5 (by decide)) fun t2 k2 => ?_
        rw [hfl]
        exact hR s.heap t2 k2 fun _ _ => rfl
    | some q =>
      rw [hq] at hf
      refine run_end e hn true hf.1 ?_
      simp only [if_true]
      rw [hf.2.1, hf.2.2, show (q + 1 == q) = false by simp]
      obtain ⟨hpq, hql, hqe⟩ := next_some _ p q rfl hq
      by_cases hlt : p < q
      · refine wpAny_ite (KPc.ite_yes hlt ?_)
        refine wpAny_bind (slice_bytes (Nat.le_trans hl (by decide)) fun t1 k1 => ?_)
        refine wpAny_bind (push_piece hD (Nat.le_trans hv5 (by decide)) fun h1 n1 hk1 hD1 => ?_)
        refine wpAny_bind (wpAny_pure ?_)
        refine wpAny_bind (push_piece hD1 (by simp; exact Nat.le_trans hv5 (by decide)) fun h2' n2 hk2 hD2 => ?_)
        have hfl : (ls ++ [(l.drop p).take (q - p)] ++ [[46, 46]]).flatten ++ quoteFrom l (q + 1) = ls.flatten ++ quoteFrom l p := by
          rw [hqe]; simp
        refine wpAny_pure ⟨plainId_quiet RF.plain_loop _, ih (l.length - (q + 1)) (by rw [← hk]; exact Nat.sub_lt_sub_left (Nat.lt_of_le_of_lt hpq hql) (Nat.lt_succ_of_le hpq)) (q + 1) _ _ n2 (c + 1) (ls ++ [(l.drop p).take (q - p)] ++ [[46, 46]]) R rfl hql ?_ hD2 ?_ (by clear hf e hn e0 hk hvs hl5 hv5 hql hqe; simp; omega) (by rw [hfl]; exact hz) ?_⟩
        · exact hP.other ((hk2 P hPD).trans (hk1 P hPD)) ((hk2 T hTD).trans (hk1 T hTD))
        · rw [Array.toList_push, Array.toList_push]
          exact (hb.snoc _ _).snoc _ _
        · intro h3 t3 k3 hk3
          rw [hfl]
          exact hR h3 t3 k3 fun b hbD => (hk3 b hbD).trans ((hk2 b hbD).trans (hk1 b hbD))
      · refine wpAny_ite (KPc.ite_no hlt ?_)
        refine wpAny_bind (wpAny_pure ?_)
        refine wpAny_bind (push_piece hD (Nat.le_trans hv5 (by decide)) fun h1 n1 hk1 hD1 => ?_)
        have hpq' : q = p := Nat.le_antisymm (Nat.le_of_not_lt hlt) hpq
        have hfl : (ls ++ [[46, 46]]).flatten ++ quoteFrom l (q + 1) = ls.flatten ++ quoteFrom l p := by
          rw [hqe, hpq', Nat.sub_self]; simp
        refine wpAny_pure ⟨plainId_quiet RF.plain_loop _, ih (l.length - (q + 1)) (by rw [← hk]; exact Nat.sub_lt_sub_left (Nat.lt_of_le_of_lt hpq hql) (Nat.lt_succ_of_le hpq)) (q + 1) _ _ n1 (c + 1) (ls ++ [[46, 46]]) R rfl hql ?_ hD1 ?_ (by clear hf e hn e0 hk hvs hl5 hv5 hql hqe; simp; omega) (by rw [hfl]; exact hz) ?_⟩
        · exact hP.other (hk1 P hPD) (hk1 T hTD)
        · rw [Array.toList_push]
          exact hb.snoc _ _
        · intro h3 t3 k3 hk3
          rw [hfl]
          exact hR h3 t3 k3 fun b hbD => (hk3 b hbD).trans (hk1 b hbD)
end
end
theorem off_Q4 : True := by
  w_top off
  trivial
section
section
open PySem.Builtin PySem.Builtin.Re
namespace RF
theorem look_call : typeLookup (.type "bytes") "__call__" = pure none := by rw [typeLookup_type, builtinLookup_eq_fast]; kernel_rfl
end RF
variable {prog : Program} {w : World} {A : Around} {E : Value → Shared → Prop} {s : Shared} {P T D : Addr} {fs items : Array Value}
theorem sub_call {l : List Nat} {t u : Tok} {Q : Value → Shared → Prop} (hP : PatAt s.heap P T fs items dotCode 1 0) (hs : ∀ y ∈ l, y < 256) (hl : l.length ≤ 10000) (hz : (quoteFrom l 0).length ≤ 100000)
    (h : ∀ h' t' k, (∀ b o, s.heap.get? b = some o → h'.get? b = some o) → Q (.bytes (BB (quoteFrom l 0)) t') { s with heap := h', toks := k }) :
    wpAny (model prog w) A (call (.builtin "re.Pattern.sub") [.ref P, .bytes (BB [46, 46]) u, .bytes (BB l) t]) Q E s := by
  have hT : s.TypeIs (.ref P) "re.Pattern" := by obtain ⟨⟨o, ho, _, hc, _⟩, _⟩ := hP; exact ⟨o, ho, hc⟩
  refine call_meets (S := fun _ R s' => s' = s ∧ ∀ h' t' k, (∀ b o, s.heap.get? b = some o → h'.get? b = some o) → R (.ok (.ret (.bytes (BB (quoteFrom l 0)) t'))) { s with heap := h', toks := k }) RF.slot_sub hT RF.entry_sub (RF.args_sub _ _ _) ?_ ⟨rfl, h⟩
  intro prog w A R s' hS
  obtain ⟨rfl, hr⟩ := hS
  unfold Builtin.«re.Pattern.sub» reSubstitute
  dsimp only
  refine wpAny_bind (wpAny_of_eq (a := [some (.bytes (BB [46, 46]) u), some (.bytes (BB l) t), none]) rfl ?_)
  dsimp only
  refine wpAny_bind (wpAny_pure ?_)
  refine wpAny_bind (wpAny_of_eq (KBy.special_eq RF.look_call) ?_)
  show wpAny _ A.in1 (asStr? (.bytes (BB [46, 46]) u) >>= _) _ _ s'
  refine wpAny_bind (wpAny_of_eq (a := none) rfl ?_)
  dsimp only
  refine wpAny_bind (wpAny_of_eq KBy.quiet_eq ?_)
  dsimp only
  have hc : (!(BB [46, 46]).contains 92) = true := by decide +kernel
  rw [hc]
  refine wpAny_bind (wpAny_pure ?_)
  show wpAny _ A.in1 (pure (Value.bytes (BB [46, 46]) u, (0 : Int)) >>= _) _ _ s'
  refine wpAny_bind (wpAny_pure ?_)
  dsimp only
  refine wpAny_bind (wpAny_holding (whole_bytes hP ?_))
  show wpAny _ A.in1 (newList [] >>= _) _ _ s'
  refine wpAny_bind (wpAny_newList ?_ (by decide))
  have hsz : ∀ b o, s'.heap.get? b = some o → b ≠ s'.heap.objs.size := fun b o e => Nat.ne_of_lt (Heap.lt_size e)
  obtain ⟨oP, hoP⟩ : ∃ o, s'.heap.get? P = some o := ⟨_, hP.at_.choose_spec.1⟩
  obtain ⟨oT, hoT⟩ : ∃ o, s'.heap.get? T = some o := ⟨_, hP.tup.choose_spec.choose_spec.1⟩
  have hgP : (s'.heap.push { cls := .type "list", data := .seq ([] : List Value).toArray }).get? P = s'.heap.get? P := by rw [hoP]; exact Heap.get?_push_of_some _ hoP
  have hgT : (s'.heap.push { cls := .type "list", data := .seq ([] : List Value).toArray }).get? T = s'.heap.get? T := by rw [hoT]; exact Heap.get?_push_of_some _ hoT
  refine wpAny_pure ⟨plainId_quiet RF.plain_loop _, ?_⟩
  refine sub_loop (P := P) (T := T) (fs := fs) (items := items) hs hl (hsz P oP hoP) (hsz T oT hoT) l.length 0 _ #[] 0 0 [] R (Nat.sub_zero _) (Nat.zero_le _) (hP.other hgP hgT) (Heap.get?_push_size _ rfl) .nil (Nat.zero_le _) hz fun h' t' k' hk => ?_
  exact hr h' t' k' fun b o e => by rw [hk b (hsz b o e)]; exact Heap.get?_push_of_some _ e
end
end
theorem off_Q5 : True := by
  w_top off
  trivial
section
theorem quote_plain : ∀ (x r : List Nat), (∀ c ∈ x, c ≠ 10) → quote false (x ++ r) = x ++ quote false r
  | [], r, _ => rfl
  | c :: x, r, h => by
    have hc : (c == 10) = false := by simpa using h c (.head _)
    show (if (false && c == 46) = true then [46, 46] else [c]) ++ quote (c == 10) (x ++ r) = _
    rw [hc, quote_plain x r fun y hy => h y (.tail _ hy)]
    rfl
theorem quote_row (d : Nat) (v r : List Nat) (hv : ∀ y ∈ v, 32 ≤ y ∧ y ≤ 126) : quote true (rowN d v ++ [13, 10] ++ r) = rowN (if d = 0 then 0 else d + 1) v ++ [13, 10] ++ quote true r := by
  have hv' : ∀ c ∈ v, c ≠ 10 := fun c hc => by have := hv c hc; omega
  have tail : quote false ([116, 58, 32] ++ v ++ [13, 10] ++ r) = [116, 58, 32] ++ v ++ [13, 10] ++ quote true r := by
    rw [List.append_assoc, List.append_assoc, quote_plain _ _ (by decide), quote_plain _ _ hv']
    simp [quote]
  cases d with
  | zero =>
    show quote true (116 :: ([58, 32] ++ v ++ [13, 10] ++ r)) = _
    have t2 : quote false ([58, 32] ++ v ++ [13, 10] ++ r) = [58, 32] ++ v ++ [13, 10] ++ quote true r := by
      rw [List.append_assoc, List.append_assoc, quote_plain _ _ (by decide), quote_plain _ _ hv']
      simp [quote]
    show [116] ++ quote false ([58, 32] ++ v ++ [13, 10] ++ r) = _
    rw [t2]
    rfl
  | succ d =>
    rw [if_neg (by omega)]
    have e1 : rowN (d + 1) v ++ [13, 10] ++ r = 46 :: (dotsN d ++ ([116, 58, 32] ++ v ++ [13, 10] ++ r)) := by
      simp [rowN, dotsN, List.replicate_succ]
    rw [e1]
    show [46, 46] ++ quote false (dotsN d ++ ([116, 58, 32] ++ v ++ [13, 10] ++ r)) = _
    rw [quote_plain _ _ (fun c hc => by rw [List.eq_of_mem_replicate hc]; decide), tail]
    simp [rowN, dotsN, List.replicate_succ]
theorem quote_last (d : Nat) (v : List Nat) (hv : ∀ y ∈ v, 32 ≤ y ∧ y ≤ 126) : quote true (rowN d v ++ [13, 10, 13, 10]) = rowN (if d = 0 then 0 else d + 1) v ++ [13, 10, 13, 10] := by
  have := quote_row d v [13, 10] hv
  simpa [quote] using this
theorem quote_page (d2 d3 d1 : Nat) (v2 v0 v3 v1 : List Nat) (h2 : ∀ y ∈ v2, 32 ≤ y ∧ y ≤ 126) (h0 : ∀ y ∈ v0, 32 ≤ y ∧ y ≤ 126) (h3 : ∀ y ∈ v3, 32 ≤ y ∧ y ≤ 126) (h1 : ∀ y ∈ v1, 32 ≤ y ∧ y ≤ 126) :
    quoteFrom (pageN (d2 + 1) (d3 + 1) (d1 + 1) v2 v0 v3 v1) 0 = pageN (d2 + 2) (d3 + 2) (d1 + 2) v2 v0 v3 v1 := by
  show quote true (pageN (d2 + 1) (d3 + 1) (d1 + 1) v2 v0 v3 v1) = _
  unfold pageN
  rw [quote_row _ _ _ h2, quote_row _ _ _ h0, quote_row _ _ _ h3, quote_last _ _ h1]
  rfl
section
variable {w : World} {h : Heap}
theorem pat97 (X : (hd.heap_1 w.params).In h) : ∃ T fs items, PatAt h 97 T fs items dotCode 1 0 :=
  ⟨_, _, _, ⟨_, X 97 _ rfl, rfl, rfl, rfl⟩, rfl, rfl, rfl, ⟨_, _, X 96 _ rfl, rfl⟩, by decide +kernel⟩
theorem method97 {M : Model} {A : Around} {E : Value → Shared → Prop} {s : Shared} {pl : Sem Bool} {Q : Value × List Value → Shared → Prop} (X : (hd.heap_1 w.params).In s.heap) (h : Q (.builtin "re.Pattern.sub", [.ref 97]) s) : wpAny M A (getMethod (.ref 97) (Str.ofString "sub") pl) Q E s :=
  let ⟨_, _, _, p⟩ := pat97 X; pat_method p RF.slot_sub RF.type_sub h
theorem sub97 {prog : Program} {A : Around} {E : Value → Shared → Prop} {s : Shared} {h₀ : Heap} {L : Addr} {m : Str → Option Value} {news : Led} {l : List Nat} {t u : Tok} {Q : Value → Shared → Prop} (X : (hd.heap_1 w.params).In h₀) (F : Fr h₀ L s.heap m) (N : News h₀ L s.heap news) (hs : ∀ y ∈ l, y < 256) (hl : l.length ≤ 10000) (hz : (quoteFrom l 0).length ≤ 100000)
    (h : ∀ h' t' k, Fr h₀ L h' m → News h₀ L h' news → Q (.bytes (BB (quoteFrom l 0)) t') { s with heap := h', toks := k }) :
    wpAny (model prog w) A (call (.builtin "re.Pattern.sub") [.ref 97, .bytes #[46, 46] u, .bytes (BB l) t]) Q E s :=
  let ⟨_, _, _, p⟩ := pat97 (X.keeps F.keep); sub_call p hs hl hz fun h' t' k hk => h h' t' k (F.keeps hk) fun q hq => ⟨hk _ _ (N q hq).1, (N q hq).2⟩
end
end
theorem off_W10 : True := by
  w_top off
  trivial
section
section
local macro_rules | `(tactic| walk_at "getMethod ref") => `(tactic| walk_at "H")
local macro_rules | `(tactic| walk_at "call builtin:re.Pattern.sub") => `(tactic| walk_at "H")
theorem quote_spec (w : World) (l : List Nat) (t : Tok) (hs : ∀ y ∈ l, y < 256) (hl : l.length ≤ 10000) (hz : (quoteFrom l 0).length ≤ 100000) : Spec w 8 64 104 [.bytes (BB l) t] [] [] (fun _ r n' => (∃ t, r = .bytes (BB (quoteFrom l 0)) t) ∧ n' = []) := by
  ((refine' Spec.enter ?ho ?hcd ?hbind ?hloc ?c2 ?c3 ?c4 ?c5 ?hdd ?_); (case ho => k_is); (case hcd => k_is); (case hbind => first | exact (fun _ _ => BindsTo.of_eq rfl) | (intro _ hX; exact binds_K hX rfl (by k_is) rfl rfl rfl)); (case hloc => exact locs rfl); (case c2 => exact rfl); (case c3 => exact rfl); (case c4 => exact rfl); (case c5 => decide); (case hdd => decide); skip)
  intro loose mean mg mb dp un gd outer A₀ base g L h₁ s Q tk hB hF hX hN hT hd hu hG hQ
  (try dsimp only); (try k_fold)
  (repeat' (first | (unfold Hold; first | ((with_reducible show wpAny _ _ (call (Value.builtin "re.Pattern.sub") _ _) _ _ _); first | (with_reducible (k_dflt (refine' sub97 ?k1 ?k2 ?k3 ?k4 ?k5 ?k6 ?_; (case k1 => k_asm); (case k2 => k_asm); (case k3 => k_asm); (case k4 => assumption); (case k5 => assumption); (case k6 => assumption)); intro h' t' k' F' N')) | (k_dflt (refine' sub97 ?k1 ?k2 ?k3 ?k4 ?k5 ?k6 ?_; (case k1 => k_asm); (case k2 => k_asm); (case k3 => k_asm); (case k4 => assumption); (case k5 => assumption); (case k6 => assumption)); intro h' t' k' F' N')) | ((with_reducible show wpAny _ _ (getMethod _ _ _) _ _ _); first | (with_reducible (k_dflt (refine' method97 (Frag.In.keeps ?k1 (Fr.keep ?k2)) ?_; (case k1 => k_asm); (case k2 => k_asm)))) | (k_dflt (refine' method97 (Frag.In.keeps ?k1 (Fr.keep ?k2)) ?_; (case k1 => k_asm); (case k2 => k_asm)))) | (have hz9 : NoHalt := ⟨⟩; walk1; all_goals (try clear hz9))) | (k_unfold; (try dsimp only)) | (k_end; wrow_close) | walk1 | (dsimp only; walk1) | (leave1; walk_say "STEP leave1"; try dsimp only) | fail "no step"))
  exact hQ _ _ _ _ _ (Flow.ret _) rfl (by k_asm) News.nil ⟨⟨_, rfl⟩, rfl⟩
end
theorem quote_page_spec (w : World) (a b c : Nat) (v2 v0 v3 v1 : List Nat) (t : Tok) (ha : a ≤ 6) (hb : b ≤ 6) (hc : c ≤ 6) (l2 : v2.length ≤ 40) (l0 : v0.length ≤ 40) (l3 : v3.length ≤ 40) (l1 : v1.length ≤ 40) (h2 : ∀ y ∈ v2, 32 ≤ y ∧ y ≤ 126) (h0 : ∀ y ∈ v0, 32 ≤ y ∧ y ≤ 126) (h3 : ∀ y ∈ v3, 32 ≤ y ∧ y ≤ 126) (h1 : ∀ y ∈ v1, 32 ≤ y ∧ y ≤ 126) :
    Spec w 8 64 104 [.bytes (BB (pageN (a + 1) (b + 1) (c + 1) v2 v0 v3 v1)) t] [] [] (fun _ r n' => (∃ t, r = .bytes (BB (pageN (a + 2) (b + 2) (c + 2) v2 v0 v3 v1)) t) ∧ n' = []) := by
  have e := quote_page a b c v2 v0 v3 v1 h2 h0 h3 h1
  have := quote_spec w (pageN (a + 1) (b + 1) (c + 1) v2 v0 v3 v1) t (fun y hy => Nat.lt_of_lt_of_le (page_signs h2 h0 h3 h1 y hy) (by decide)) (Nat.le_trans (page_len (by omega) (by omega) (by omega) l2 l0 l3 l1) (by decide)) (by rw [e]; exact Nat.le_trans (page_len (by omega) (by omega) (by omega) l2 l0 l3 l1) (by decide))
  rw [e] at this
  exact this
end
theorem off_W11 : True := by
  w_top off
  trivial
section
local macro_rules | `(tactic| walk_at "my pad") => `(tactic| skip)
section
local macro_rules | `(tactic| walk_at "call type:bytes") => `(tactic| walk_at "H")
local macro_rules | `(tactic| walk_at "call ref") => `(tactic| walk_at "H")
theorem law_sent_spec (w : World) (x d l T2 T0 T3 T1 : Nat) (tk0 : Tok) (u : Nat → Tok) (v2 v0 v3 v1 : List Nat) (tu : Int) (t : Tok) (htu : tu = 1 ∨ tu = 2 ∨ tu = 3) (l2 : v2.length ≤ 40) (l0 : v0.length ≤ 40) (l3 : v3.length ≤ 40) (l1 : v1.length ≤ 40) (h2 : ∀ y ∈ v2, 32 ≤ y ∧ y ≤ 126) (h0 : ∀ y ∈ v0, 32 ≤ y ∧ y ≤ 126) (h3 : ∀ y ∈ v3, 32 ≤ y ∧ y ≤ 126) (h1 : ∀ y ∈ v1, 32 ≤ y ∧ y ≤ 126) : Spec w 24 192 282 [.ref x, .int tu t] [] (headLed w.params x d l T2 T0 T3 T1 tk0 u v2 v0 v3 v1) (fun _ r n' => (∃ t, r = .bytes (BB (pageN (2 + tu).toNat (3 + tu).toNat (1 + tu).toNat v2 v0 v3 v1)) t) ∧ n' = headLed w.params x d l T2 T0 T3 T1 tk0 u v2 v0 v3 v1) := by
  have hSp := bytes_spec w x d l T2 T0 T3 T1 tk0 u v2 v0 v3 v1 l2 l0 l3 l1 h2 h0 h3 h1
  rcases htu with rfl | rfl | rfl
  all_goals
    ((refine' Spec.enter ?ho ?hcd ?hbind ?hloc ?c2 ?c3 ?c4 ?c5 ?hdd ?_); (case ho => k_is); (case hcd => k_is); (case hbind => first | exact (fun _ _ => BindsTo.of_eq rfl) | (intro _ hX; exact binds_K hX rfl (by k_is) rfl rfl rfl)); (case hloc => exact locs rfl); (case c2 => exact rfl); (case c3 => exact rfl); (case c4 => exact rfl); (case c5 => decide); (case hdd => decide); skip)
    intro loose mean mg mb dp un gd outer A₀ base g L h₁ s Q tk hB hF hX hN hT hd hu hG hQ
    (try dsimp only); (try k_fold)
    (try simp only [headLed, pageLed, List.cons_append, List.nil_append] at hN)
    (repeat' (first | (unfold Hold; first | ((with_reducible show wpAny _ _ (call (Value.ref 104) [Value.bytes _ _]) _ _ _); first | (with_reducible (k_dflt (refine' Spec.use (quote_page_spec _ _ _ _ _ _ _ _ _ ?a1 ?a2 ?a3 ?a4 ?a5 ?a6 ?a7 ?a8 ?a9 ?b1 ?b2) _ ?k1 ?k2 ?k3 ?k4 ?k5 ?kK ?kd ?ku (led_nil _) (led_self _) (led_none _) ?_); (case a1 => decide); (case a2 => decide); (case a3 => decide); (case a4 => assumption); (case a5 => assumption); (case a6 => assumption); (case a7 => assumption); (case a8 => assumption); (case a9 => assumption); (case b1 => assumption); (case b2 => assumption); ((case k1 => first | k_asm | fail "spec: the frames below"); (case k2 => first | k_asm | k_dflt assumption | fail "spec: the frame"); (case k3 => first | k_asm | fail "spec: the written part"); (case k4 => first | k_asm | k_dflt assumption | fail "spec: the ledger"); (case k5 => first | k_asm | fail "spec: the top's facts"); (case kK => first | exact rfl | assumption | fail "spec: the caller is no def"); (case kd => first | (with_reducible exact roomN (by assumption) (by decide)) | ktr_room | fail "spec: room"); (case ku => first | (with_reducible exact roomN (by assumption) (by decide)) | ktr_units | fail "spec: units")); intro r9 h9 tk9 n9 F9 N9 _ R9; obtain ⟨⟨t9, e9⟩, e8⟩ := R9; subst e9; subst e8; (try simp only [List.nil_append, List.cons_append] at N9); (try dsimp only); (try k_fold))) | (k_dflt (refine' Spec.use (quote_page_spec _ _ _ _ _ _ _ _ _ ?a1 ?a2 ?a3 ?a4 ?a5 ?a6 ?a7 ?a8 ?a9 ?b1 ?b2) _ ?k1 ?k2 ?k3 ?k4 ?k5 ?kK ?kd ?ku (led_nil _) (led_self _) (led_none _) ?_); (case a1 => decide); (case a2 => decide); (case a3 => decide); (case a4 => assumption); (case a5 => assumption); (case a6 => assumption); (case a7 => assumption); (case a8 => assumption); (case a9 => assumption); (case b1 => assumption); (case b2 => assumption); ((case k1 => first | k_asm | fail "spec: the frames below"); (case k2 => first | k_asm | k_dflt assumption | fail "spec: the frame"); (case k3 => first | k_asm | fail "spec: the written part"); (case k4 => first | k_asm | k_dflt assumption | fail "spec: the ledger"); (case k5 => first | k_asm | fail "spec: the top's facts"); (case kK => first | exact rfl | assumption | fail "spec: the caller is no def"); (case kd => first | (with_reducible exact roomN (by assumption) (by decide)) | ktr_room | fail "spec: room"); (case ku => first | (with_reducible exact roomN (by assumption) (by decide)) | ktr_units | fail "spec: units")); intro r9 h9 tk9 n9 F9 N9 _ R9; obtain ⟨⟨t9, e9⟩, e8⟩ := R9; subst e9; subst e8; (try simp only [List.nil_append, List.cons_append] at N9); (try dsimp only); (try k_fold))) | ((with_reducible show wpAny _ _ (call (Value.type "bytes") [Value.ref _]) _ _ _); first | (with_reducible (k_dflt (refine' call_bytes_own ?j2 ?j3 ?j4 ?j5 ?_; (case j2 => k_in); (case j3 => k_inst); (case j4 => k_is); (case j5 => k_is)); k_dflt (refine' Spec.use ?sp [] ?k1 ?k2 ?k3 ?k4 ?k5 ?kK ?kd ?ku (led_self _) (led_nil _) led_no ?_); (case sp => assumption); ((case k1 => first | k_asm | fail "spec: the frames below"); (case k2 => first | k_asm | k_dflt assumption | fail "spec: the frame"); (case k3 => first | k_asm | fail "spec: the written part"); (case k4 => first | k_asm | k_dflt assumption | fail "spec: the ledger"); (case k5 => first | k_asm | fail "spec: the top's facts"); (case kK => first | exact rfl | assumption | fail "spec: the caller is no def"); (case kd => first | (with_reducible exact roomN (by assumption) (by decide)) | ktr_room | fail "spec: room"); (case ku => first | (with_reducible exact roomN (by assumption) (by decide)) | ktr_units | fail "spec: units")); intro r9 h9 tk9 n9 F9 N9 _ R9; obtain ⟨⟨t9, e9⟩, e8⟩ := R9; subst e9; subst e8; (try simp only [headLed, pageLed, List.nil_append, List.cons_append] at N9); unfold BytesBack; (try dsimp only); (try k_fold))) | (k_dflt (refine' call_bytes_own ?j2 ?j3 ?j4 ?j5 ?_; (case j2 => k_in); (case j3 => k_inst); (case j4 => k_is); (case j5 => k_is)); k_dflt (refine' Spec.use ?sp [] ?k1 ?k2 ?k3 ?k4 ?k5 ?kK ?kd ?ku (led_self _) (led_nil _) led_no ?_); (case sp => assumption); ((case k1 => first | k_asm | fail "spec: the frames below"); (case k2 => first | k_asm | k_dflt assumption | fail "spec: the frame"); (case k3 => first | k_asm | fail "spec: the written part"); (case k4 => first | k_asm | k_dflt assumption | fail "spec: the ledger"); (case k5 => first | k_asm | fail "spec: the top's facts"); (case kK => first | exact rfl | assumption | fail "spec: the caller is no def"); (case kd => first | (with_reducible exact roomN (by assumption) (by decide)) | ktr_room | fail "spec: room"); (case ku => first | (with_reducible exact roomN (by assumption) (by decide)) | ktr_units | fail "spec: units")); intro r9 h9 tk9 n9 F9 N9 _ R9; obtain ⟨⟨t9, e9⟩, e8⟩ := R9; subst e9; subst e8; (try simp only [headLed, pageLed, List.nil_append, List.cons_append] at N9); unfold BytesBack; (try dsimp only); (try k_fold))) | (have hz9 : NoHalt := ⟨⟩; walk1; all_goals (try clear hz9))) | (k_unfold; (try dsimp only)) | (k_end; wrow_close) | walk1 | (dsimp only; walk1) | (leave1; walk_say "STEP leave1"; try dsimp only) | fail "no step"))
    (try dsimp only)
    (with_reducible rename News _ _ _ (_ :: _) => NN)
    exact hQ _ _ _ _ _ (Flow.ret _) rfl (by k_asm) NN ⟨⟨_, rfl⟩, rfl⟩
end
end
theorem off_Q6 : True := by
  w_top off
  trivial
section
noncomputable abbrev flagsCode : Array Nat := #[14, 4, 0, 8, 4294967295, 24, 5, 0, 4294967295, 2, 1, 16, 70, 16, 76, 16, 65, 16, 71, 16, 83, 16, 32, 16, 40, 17, 0, 24, 6, 0, 4294967295, 20, 41, 1, 17, 1, 16, 41, 1]
noncomputable abbrev flagsLits : List Nat := [70, 76, 65, 71, 83, 32, 40]
noncomputable def matchAt (l : List Nat) (q : Nat) : Bool := flagsLits.isPrefixOf (l.drop q)
namespace RS
open PySem.Sre (M ops)
theorem min_len {n k : Nat} (hn : n ≤ 100000) : min 4294967295 ((n : Int) - (k : Int)).toNat = n - k := by
  rw [Int.toNat_sub, Nat.min_eq_right (Nat.le_trans (Nat.sub_le n k) (Nat.le_trans hn (by decide)))]
theorem rep {m : M} {n : Nat} {seen' : PySem.Sre.Seen} (h : m.code.getD m.pc 0 = 24) (h2 : m.code.getD (m.pc + 2) 0 = 0) (hp : m.pos ≤ m.lim)
    (hr : PySem.Sre.run m.code m.text (m.pc + 4) (min (m.code.getD (m.pc + 3) 0) ((m.lim : Int) - m.pos).toNat) m.pos 0 ((m.seen.add 24).add (m.code.getD (m.pc + 4) 0)) = .ok (n, seen')) :
    m.exec = ({ m with seen := seen', pos := m.pos + n } : M).afterRun .giveBack n (m.keep m.inner.isSome) := by
  have hw0 : m.word 0 = 24 := h
  have hw : ops[m.word 0]? = some .REPEAT_ONE := by rw [hw0]; rfl
  have e2 : m.word 2 = 0 := h2
  have e3 : m.word 3 = m.code.getD (m.pc + 3) 0 := rfl
  have e4 : m.word 4 = m.code.getD (m.pc + 4) 0 := rfl
  have e0 : ∀ s, ({ m with seen := s } : M).word = m.word := fun _ => rfl
  unfold M.exec
  rw [hw]
  dsimp only
  simp only [e0]
  rw [hw0]
  simp only [e2]
  rw [if_neg (by simp; omega)]
  simp only [Bool.false_eq_true, if_false, e3, e4]
  rw [hr]
  simp only [Nat.not_lt_zero, if_false]
  rfl
end RS
theorem run_ok {code text : Array Nat} {i : Nat} {seen : PySem.Sre.Seen} {acc : Nat → Bool} (ha : ∀ c, PySem.Sre.accepts code i c seen = .ok (acc c, seen)) :
    ∀ (n p found k : Nat), k ≤ n → (∀ j, j < k → acc (text.getD (p + j) 0) = true) → (k = n ∨ acc (text.getD (p + k) 0) = false) → PySem.Sre.run code text i n p found seen = .ok (found + k, seen)
  | 0, p, found, k, hk, _, _ => by
    have : k = 0 := by omega
    subst this
    rfl
  | n + 1, p, found, 0, _, _, he => by
    have h : acc (text.getD p 0) = false := by
      rcases he with he | he
      · omega
      · simpa using he
    unfold PySem.Sre.run
    rw [ha, h]
    rfl
  | n + 1, p, found, k + 1, hk, hj, he => by
    have h : acc (text.getD p 0) = true := by simpa using hj 0 (by omega)
    unfold PySem.Sre.run
    rw [ha, h]
    have := run_ok ha n (p + 1) (found + 1) k (by omega) (fun j hjk => by have := hj (j + 1) (by omega); rwa [show p + (j + 1) = p + 1 + j by omega] at this) (by
      rcases he with he | he
      · left; omega
      · right; rwa [show p + (k + 1) = p + 1 + k by omega] at he)
    show PySem.Sre.run code text i n (p + 1) (found + 1) seen = _
    rw [this, show found + 1 + k = found + (k + 1) by omega]
namespace RZ
open PySem.Sre (M ops)
noncomputable def gfr (q : Nat) : PySem.Sre.Frame := { wait := .giveBack, pc := 5, pos := q, outermost := true, count := (q : Int) }
noncomputable def zst (l : List Nat) (q pc pos : Nat) (seen : PySem.Sre.Seen) (ans : Option Bool) : M :=
  { code := flagsCode, text := l.toArray, lim := l.length, start := 0, pc := pc, pos := pos, handed := q, marks := #[none, none], frames := [gfr q], weight := 1, answer := ans, seen }
variable {l : List Nat} {q pc pos : Nat} {seen : PySem.Sre.Seen}
noncomputable def CL : Nat → List Nat → Prop
  | _, [] => True
  | pc, c :: r => pc < 39 ∧ flagsCode.getD pc 0 = 16 ∧ flagsCode.getD (pc + 1) 0 = c ∧ CL (pc + 2) r
theorem lits_run : ∀ (cs : List Nat) (pc pos : Nat) (seen : PySem.Sre.Seen), CL pc cs → ∃ n seen', n ≤ cs.length ∧
    ((cs.isPrefixOf (l.drop pos) = true → (zst l q pc pos seen none).runFor n = zst l q (pc + 2 * cs.length) (pos + cs.length) seen' none) ∧
     (cs.isPrefixOf (l.drop pos) = false → ∃ pc' pos', (zst l q pc pos seen none).runFor n = zst l q pc' pos' seen' (some false)))
  | [], pc, pos, seen, _ => ⟨0, seen, Nat.le_refl _, fun _ => rfl, fun h => by cases h⟩
  | c :: r, pc, pos, seen, h => by
    obtain ⟨h39, h0, h1, hr⟩ := h
    have e : (zst l q pc pos seen none).step = if pos ≥ l.length then zst l q pc pos (seen.add 16) (some false) else if (l.toArray.getD pos 0 == c) = true then zst l q (pc + 2) (pos + 1) (seen.add 16) none else zst l q pc pos (seen.add 16) (some false) := by
      rw [RS.exec_of rfl rfl h39, RS.lit h0]
      show (if pos ≥ l.length then _ else if (l.toArray.getD pos 0 == flagsCode.getD (pc + 1) 0) = true then _ else _) = _
      rw [h1]
      rfl
    by_cases hp : pos ≥ l.length
    · rw [if_pos hp] at e
      refine ⟨1, seen.add 16, by simp, fun hh => ?_, fun _ => ⟨pc, pos, by rw [RD.one, e]⟩⟩
      rw [List.drop_eq_nil_of_le hp] at hh
      cases hh
    · rw [if_neg hp] at e
      have hp' : pos < l.length := by omega
      have eg : l.toArray.getD pos 0 = l[pos] := by simp [Array.getD, hp']
      rw [eg] at e
      by_cases hc : (l[pos] == c) = true
      · rw [if_pos hc] at e
        obtain ⟨n, seen', hn, a, b⟩ := lits_run r (pc + 2) (pos + 1) (seen.add 16) hr
        have hcc : (c == l[pos]) = true := by rw [beq_iff_eq] at hc ⊢; exact hc.symm
        refine ⟨1 + n, seen', by simp; omega, fun hh => ?_, fun hh => ?_⟩
        · rw [List.drop_eq_getElem_cons hp'] at hh
          have h2 : r.isPrefixOf (l.drop (pos + 1)) = true := by
            simp only [List.isPrefixOf, Bool.and_eq_true] at hh
            exact hh.2
          rw [runFor_add, RD.one, e, a h2]
          simp only [List.length_cons]
          rw [show pc + 2 + 2 * r.length = pc + 2 * (r.length + 1) by omega, show pos + 1 + r.length = pos + (r.length + 1) by omega]
        · rw [List.drop_eq_getElem_cons hp'] at hh
          have h2 : r.isPrefixOf (l.drop (pos + 1)) = false := by
            simp only [List.isPrefixOf, hcc, Bool.true_and] at hh
            exact hh
          obtain ⟨pc', pos', e2⟩ := b h2
          exact ⟨pc', pos', by rw [runFor_add, RD.one, e, e2]⟩
      · rw [if_neg hc] at e
        refine ⟨1, seen.add 16, by simp, fun hh => ?_, fun _ => ⟨pc, pos, by rw [RD.one, e]⟩⟩
        rw [List.drop_eq_getElem_cons hp'] at hh
        simp only [List.isPrefixOf, Bool.and_eq_true, beq_iff_eq] at hh
        exact absurd (beq_iff_eq.mpr hh.1.symm) hc
theorem cl : CL 11 flagsLits := ⟨by decide, rfl, rfl, by decide, rfl, rfl, by decide, rfl, rfl, by decide, rfl, rfl, by decide, rfl, rfl, by decide, rfl, rfl, by decide, rfl, rfl, trivial⟩
theorem back0 {pc pos : Nat} : ((zst l 0 pc pos seen (some false)).runFor 2).outcome = some .failed := by
  rw [show (2 : Nat) = 1 + 1 from rfl, runFor_add, RD.one, RD.one]
  rfl
theorem back {pc pos : Nat} : (zst l (q + 1) pc pos seen (some false)).step = zst l q 11 q seen none := by
  have e : ((q + 1 : Nat) : Int) - 1 = (q : Int) := by omega
  show (if ((q + 1 : Nat) : Int) - 1 < 0 then _ else M.afterRun _ _ (((q + 1 : Nat) : Int) - 1) _) = _
  rw [e, if_neg (by omega)]
  rfl
/-- all places from q down fail -/
theorem all_fail : ∀ (q : Nat) (seen : PySem.Sre.Seen), (∀ p, p ≤ q → matchAt l p = false) → ∃ n f, n ≤ 10 * (q + 1) ∧ (zst l q 11 q seen none).runFor n = f ∧ f.outcome = some .failed
  | 0, seen, h => by
    obtain ⟨n, seen', hn, _, b⟩ := lits_run (l := l) (q := 0) flagsLits 11 0 seen cl
    obtain ⟨pc', pos', e⟩ := b (h 0 (Nat.le_refl _))
    exact ⟨n + 2, _, by simp at hn; omega, RD.run_add e rfl, back0⟩
  | q + 1, seen, h => by
    obtain ⟨n, seen', hn, _, b⟩ := lits_run (l := l) (q := q + 1) flagsLits 11 (q + 1) seen cl
    obtain ⟨pc', pos', e⟩ := b (h (q + 1) (Nat.le_refl _))
    obtain ⟨n2, f, hn2, e2, h2⟩ := all_fail q seen' fun p hp => h p (by omega)
    exact ⟨n + (1 + n2), f, by simp at hn; omega, RD.run_add e (RD.run_add (by rw [RD.one, back]) e2), h2⟩
/-- the places above q0 fail -/
theorem down_to : ∀ (k q0 : Nat) (seen : PySem.Sre.Seen), (∀ p, q0 < p → p ≤ q0 + k → matchAt l p = false) → ∃ n seen', n ≤ 10 * k ∧ (zst l (q0 + k) 11 (q0 + k) seen none).runFor n = zst l q0 11 q0 seen' none
  | 0, q0, seen, _ => ⟨0, seen, Nat.le_refl _, rfl⟩
  | k + 1, q0, seen, h => by
    obtain ⟨n, seen', hn, _, b⟩ := lits_run (l := l) (q := q0 + k + 1) flagsLits 11 (q0 + k + 1) seen cl
    obtain ⟨pc', pos', e⟩ := b (h (q0 + k + 1) (by omega) (by omega))
    obtain ⟨n2, seen2, hn2, e2⟩ := down_to k q0 seen' fun p hp1 hp2 => h p hp1 (by omega)
    exact ⟨n + (1 + n2), seen2, by simp at hn; omega, RD.run_add e (RD.run_add (by rw [RD.one, back]) e2)⟩
end RZ
namespace RZ
open PySem.Sre (M ops)
variable {l : List Nat} {q pc pos : Nat} {seen : PySem.Sre.Seen}
theorem accepts_any (c : Nat) (seen : PySem.Sre.Seen) : PySem.Sre.accepts flagsCode 9 c seen = .ok (c != 10, seen) := rfl
theorem accepts_not (c : Nat) (seen : PySem.Sre.Seen) : PySem.Sre.accepts flagsCode 31 c seen = .ok (c != 41, seen) := rfl
theorem first_is (h8 : 8 ≤ l.length) : PySem.Sre.forMatch flagsCode l.toArray 1 0 l.length false false = ({ code := flagsCode, text := l.toArray, lim := l.length, start := 0, pc := 5, pos := 0, handed := 0, marks := #[none, none], seen := ({} : PySem.Sre.Seen).add 14 } : M) := by
  unfold PySem.Sre.forMatch
  show (if ((8 : Nat) != 0 && decide (0 ≤ l.length) && decide (l.length - 0 < 8)) = true then _ else _) = _
  rw [if_neg (by simp; omega)]
  rfl
theorem first_step (hnl : ∀ y ∈ l, y ≠ 10) (hl : l.length ≤ 100000) : ∃ seen', (({ code := flagsCode, text := l.toArray, lim := l.length, start := 0, pc := 5, pos := 0, handed := 0, marks := #[none, none], seen := ({} : PySem.Sre.Seen).add 14 } : M)).step = zst l l.length 11 l.length seen' none := by
  refine ⟨((({} : PySem.Sre.Seen).add 14).add 24).add 2, ?_⟩
  rw [RS.exec_of rfl rfl (by show 5 < 39; decide), RS.rep (n := l.length) (seen' := ((({} : PySem.Sre.Seen).add 14).add 24).add 2) rfl rfl (Nat.zero_le _)]
  · show (({ code := flagsCode, text := l.toArray, lim := l.length, start := 0, pc := 5, pos := 0 + l.length, handed := 0, marks := #[none, none], seen := ((({} : PySem.Sre.Seen).add 14).add 24).add 2 } : M)).afterRun .giveBack (l.length : Int) {} = _
    rw [Nat.zero_add]
    rfl
  · show PySem.Sre.run flagsCode l.toArray 9 (min 4294967295 ((l.length : Int) - (0 : Nat)).toNat) 0 0 _ = _
    rw [show min 4294967295 ((l.length : Int) - (0 : Nat)).toNat = l.length from RS.min_len hl]
    have := run_ok (text := l.toArray) (fun c => accepts_any c (((({} : PySem.Sre.Seen).add 14).add 24).add 2)) l.length 0 0 l.length (Nat.le_refl _) (fun j hj => by
      have e : l.toArray.getD (0 + j) 0 = l[j] := by simp [Array.getD, hj]
      rw [e]
      have := hnl l[j] (List.getElem_mem hj)
      simpa using this) (Or.inl rfl)
    rw [Nat.zero_add] at this
    exact this
theorem match_none (hnl : ∀ y ∈ l, y ≠ 10) (h8 : 8 ≤ l.length) (hl : l.length ≤ 100000) (h : ∀ p, p ≤ l.length → matchAt l p = false) : ∃ n f, n ≤ 100000000 ∧ (PySem.Sre.forMatch flagsCode l.toArray 1 0 l.length false false).runFor n = f ∧ f.outcome = some .failed := by
  rw [first_is h8]
  obtain ⟨seen', e⟩ := first_step hnl hl
  obtain ⟨n, f, hn, e2, h2⟩ := all_fail (l := l) l.length seen' h
  exact ⟨1 + n, f, by omega, RD.run_add (by rw [RD.one, e]) e2, h2⟩
/-- the way behind the literals -/
theorem hit {q0 k : Nat} (hin : ∀ j, j < k → l.toArray.getD (q0 + 7 + j) 0 ≠ 41) (hlt : q0 + 7 + k < l.length) (h41 : l.toArray.getD (q0 + 7 + k) 0 = 41) (hl : l.length ≤ 100000) :
    ∃ f, (zst l q0 25 (q0 + 7) seen none).runFor 8 = f ∧ f.outcome = some .matched ∧ f.start = 0 ∧ f.handed = q0 + 7 + k + 1 ∧ f.marks = #[some (q0 + 7), some (q0 + 7 + k)] ∧ f.lastmark = 1 ∧ f.lastindex = 1 := by
  have e1 : (zst l q0 25 (q0 + 7) seen none).step = ({ zst l q0 27 (q0 + 7) (seen.add 17) none with marks := #[some (q0 + 7), none], lastmark := 0 } : M) := by
    rw [RS.exec_of rfl rfl (by show 25 < 39; decide), RS.mark0 rfl]
    rfl
  have e2 : (({ zst l q0 27 (q0 + 7) (seen.add 17) none with marks := #[some (q0 + 7), none], lastmark := 0 } : M)).step = ({ zst l q0 34 (q0 + 7 + k) (((seen.add 17).add 24).add 20) none with marks := #[some (q0 + 7), none], lastmark := 0, handed := q0 + 7 + k, weight := 2, frames := [{ wait := .giveBack, pc := 27, pos := q0 + 7 + k, outermost := true, count := (k : Int), kept := { lastmark := 0, lastindex := -1 } }, gfr q0] } : M) := by
    rw [RS.exec_of rfl rfl (by show 27 < 39; decide), RS.rep (n := k) (seen' := ((seen.add 17).add 24).add 20) rfl rfl (by show q0 + 7 ≤ l.length; omega)]
    · rfl
    · show PySem.Sre.run flagsCode l.toArray 31 (min 4294967295 ((l.length : Int) - ((q0 + 7 : Nat) : Int)).toNat) (q0 + 7) 0 _ = _
      have := run_ok (text := l.toArray) (fun c => accepts_not c (((seen.add 17).add 24).add 20)) (min 4294967295 ((l.length : Int) - ((q0 + 7 : Nat) : Int)).toNat) (q0 + 7) 0 k (by rw [RS.min_len hl]; omega) (fun j hj => by simpa using hin j hj) (Or.inr (by rw [h41]; rfl))
      rw [Nat.zero_add] at this
      exact this
  have e3 : (({ zst l q0 34 (q0 + 7 + k) (((seen.add 17).add 24).add 20) none with marks := #[some (q0 + 7), none], lastmark := 0, handed := q0 + 7 + k, weight := 2, frames := [{ wait := .giveBack, pc := 27, pos := q0 + 7 + k, outermost := true, count := (k : Int), kept := { lastmark := 0, lastindex := -1 } }, gfr q0] } : M)).step = ({ zst l q0 36 (q0 + 7 + k) ((((seen.add 17).add 24).add 20).add 17) none with marks := #[some (q0 + 7), some (q0 + 7 + k)], lastmark := 1, lastindex := 1, handed := q0 + 7 + k, weight := 2, frames := [{ wait := .giveBack, pc := 27, pos := q0 + 7 + k, outermost := true, count := (k : Int), kept := { lastmark := 0, lastindex := -1 } }, gfr q0] } : M) := by
    rw [RS.exec_of rfl rfl (by show 34 < 39; decide), RS.mark0 rfl]
    show M.mark _ 1 = _
    unfold M.mark
    dsimp only
    rw [if_pos (by decide)]
    rfl
  have e4 : (({ zst l q0 36 (q0 + 7 + k) ((((seen.add 17).add 24).add 20).add 17) none with marks := #[some (q0 + 7), some (q0 + 7 + k)], lastmark := 1, lastindex := 1, handed := q0 + 7 + k, weight := 2, frames := [{ wait := .giveBack, pc := 27, pos := q0 + 7 + k, outermost := true, count := (k : Int), kept := { lastmark := 0, lastindex := -1 } }, gfr q0] } : M)).step = ({ zst l q0 38 (q0 + 7 + k + 1) (((((seen.add 17).add 24).add 20).add 17).add 16) none with marks := #[some (q0 + 7), some (q0 + 7 + k)], lastmark := 1, lastindex := 1, handed := q0 + 7 + k, weight := 2, frames := [{ wait := .giveBack, pc := 27, pos := q0 + 7 + k, outermost := true, count := (k : Int), kept := { lastmark := 0, lastindex := -1 } }, gfr q0] } : M) := by
    rw [RS.exec_of rfl rfl (by show 36 < 39; decide), RS.lit rfl]
    show (if q0 + 7 + k ≥ l.length then _ else if (l.toArray.getD (q0 + 7 + k) 0 == 41) = true then _ else _) = _
    rw [if_neg (by omega), if_pos (by rw [h41]; rfl)]
    rfl
  have e5 : (({ zst l q0 38 (q0 + 7 + k + 1) (((((seen.add 17).add 24).add 20).add 17).add 16) none with marks := #[some (q0 + 7), some (q0 + 7 + k)], lastmark := 1, lastindex := 1, handed := q0 + 7 + k, weight := 2, frames := [{ wait := .giveBack, pc := 27, pos := q0 + 7 + k, outermost := true, count := (k : Int), kept := { lastmark := 0, lastindex := -1 } }, gfr q0] } : M)).step = ({ zst l q0 38 (q0 + 7 + k + 1) ((((((seen.add 17).add 24).add 20).add 17).add 16).add 1) (some true) with marks := #[some (q0 + 7), some (q0 + 7 + k)], lastmark := 1, lastindex := 1, handed := q0 + 7 + k + 1, weight := 2, frames := [{ wait := .giveBack, pc := 27, pos := q0 + 7 + k, outermost := true, count := (k : Int), kept := { lastmark := 0, lastindex := -1 } }, gfr q0] } : M) := by
    rw [RS.exec_of rfl rfl (by show 38 < 39; decide), RS.success rfl rfl rfl]
    rfl
  refine ⟨_, RD.run_add (by rw [RD.one, e1]) (RD.run_add (a := 1) (b := 6) (by rw [RD.one, e2]) (RD.run_add (a := 1) (b := 5) (by rw [RD.one, e3]) (RD.run_add (a := 1) (b := 4) (by rw [RD.one, e4]) (RD.run_add (a := 1) (b := 3) (by rw [RD.one, e5]) rfl)))), ?_⟩
  exact ⟨rfl, rfl, rfl, rfl, rfl, rfl⟩
theorem match_hit {q0 k : Nat} (hnl : ∀ y ∈ l, y ≠ 10) (h8 : 8 ≤ l.length) (hl : l.length ≤ 100000) (hm : matchAt l q0 = true) (habove : ∀ p, q0 < p → p ≤ l.length → matchAt l p = false) (hin : ∀ j, j < k → l.toArray.getD (q0 + 7 + j) 0 ≠ 41) (hlt : q0 + 7 + k < l.length) (h41 : l.toArray.getD (q0 + 7 + k) 0 = 41) :
    ∃ n f, n ≤ 100000000 ∧ (PySem.Sre.forMatch flagsCode l.toArray 1 0 l.length false false).runFor n = f ∧ f.outcome = some .matched ∧ f.start = 0 ∧ f.handed = q0 + 7 + k + 1 ∧ f.marks = #[some (q0 + 7), some (q0 + 7 + k)] ∧ f.lastmark = 1 ∧ f.lastindex = 1 := by
  rw [first_is h8]
  obtain ⟨seen', e⟩ := first_step hnl hl
  obtain ⟨n, seen2, hn, e2⟩ := down_to (l := l) (l.length - q0) q0 seen' fun p h1 h2 => habove p h1 (by omega)
  rw [show q0 + (l.length - q0) = l.length by omega] at e2
  obtain ⟨n3, seen3, hn3, a, _⟩ := lits_run (l := l) (q := q0) flagsLits 11 q0 seen2 cl
  obtain ⟨f, e4, h4⟩ := hit (l := l) (seen := seen3) hin hlt h41 hl
  exact ⟨1 + (n + (n3 + 8)), f, by clear h4 e4 a e e2; simp at hn3; omega, RD.run_add (by rw [RD.one, e]) (RD.run_add e2 (RD.run_add (a hm) e4)), h4⟩
end RZ
end
theorem off_Q7 : True := by
  w_top off
  trivial
section
section
open PySem.Builtin PySem.Builtin.Re
variable {M : Model} {A : Around} {E : Value → Shared → Prop} {s : Shared} {P T : Addr} {fs items : Array Value} {l : List Nat} {t : Tok} {code : Array Nat} {groups : Nat}
theorem target_bytes {id f : String} {Q : ReTarget → Shared → Prop} (p : PatAt s.heap P T fs items code 1 groups) (hs : ∀ y ∈ l, y < 256) (hl : l.length ≤ 100000)
    (h : Q { pattern := .ref P, string := .bytes (BB l) t, code, text := l.toArray, kind := 1, groups, pos := 0, lim := l.length } s) : wpAny M A (reTarget id f ⟨[.ref P, .bytes (BB l) t], []⟩) Q E s := by
  obtain ⟨⟨o, ho, hd, _⟩, h5, h6, h2, ht, hc⟩ := p
  rw [target_eq]
  refine wpAny_bind (wpAny_fieldsOf ho hd ?_)
  refine wpAny_bind (wpAny_of_eq (textOf_bytes _ t) ?_)
  dsimp only
  rw [h6, h5, h2, map_BB hs]
  refine wpAny_bind ?_
  unfold reNoCollectionInside
  refine bm_if_true rfl ?_
  refine wpAny_bind (wpAny_of_eq KBy.isInstance_eq ?_)
  refine wpAny_pure ?_
  refine wpAny_bind (rawItems ht (wpAny_pure ?_))
  rw [hc, show min (Int.toNat 0) l.toArray.size = 0 by simp, show min (Int.toNat (2 ^ 63 - 1)) l.toArray.size = l.length by simp; omega]
  exact h
/-- a match object: what it holds -/
noncomputable abbrev matchO (P tp : Addr) (l : List Nat) (t : Tok) : Obj := { cls := .type "re.Match", data := .fields #[.bytes (BB l) t, .ref P, rawInt 0, rawInt l.length, rawInt 1, .ref tp] }
noncomputable abbrev spansO (b e hd : Nat) : Obj := { cls := .type "tuple", data := .seq #[rawInt 0, rawInt hd, rawInt b, rawInt e] }
theorem newMatch {f : Sre.M} {b e hd : Nat} {Q : Value → Shared → Prop} (h1 : f.start = 0) (h2 : f.handed = hd) (h3 : f.marks = #[some b, some e]) (h4 : f.lastmark = 1) (h5 : f.lastindex = 1) (hbe : b ≤ e)
    (h : Q (.ref (s.heap.push (spansO b e hd)).objs.size) { s with heap := (s.heap.push (spansO b e hd)).push (matchO P s.heap.objs.size l t) }) :
    wpAny M A (reNewMatch (.ref P) (.bytes (BB l) t) 1 0 l.length f) Q E s := by
  unfold reNewMatch
  dsimp only
  rw [h1, h2, h3, h4, h5]
  refine bm_if_false ?_ ?_
  · show (decide (((2 * 0 + 1 : Nat) : Int) ≤ 1) && decide (e < b) || false) = false
    rw [show decide (e < b) = false by simp; omega]
    rfl
  · refine wpAny_bind (wpAny_newTuple ?_ (by show 4 ≤ sizeLine; decide))
    exact wpAny_newObj_type h (by size_fits)
end
section
open PySem.Builtin PySem.Builtin.Re
variable {prog : Program} {w : World} {A : Around} {E : Value → Shared → Prop} {s : Shared} {h₀ : Heap} {L : Addr} {m : Str → Option Value} {news : Led} {l : List Nat} {t u : Tok} {Q : Value → Shared → Prop}
theorem pat43 {h : Heap} (X : (hd.heap_1 w.params).In h) : ∃ T fs items, PatAt h 43 T fs items flagsCode 1 1 :=
  ⟨_, _, _, ⟨_, X 43 _ rfl, rfl, rfl, rfl⟩, rfl, rfl, rfl, ⟨_, _, X 42 _ rfl, rfl⟩, by decide +kernel⟩
theorem method43 {M : Model} {A : Around} {E : Value → Shared → Prop} {s : Shared} {pl : Sem Bool} {Q : Value × List Value → Shared → Prop} (X : (hd.heap_1 w.params).In s.heap) (h : Q (.builtin "re.Pattern.match", [.ref 43]) s) : wpAny M A (getMethod (.ref 43) (Str.ofString "match") pl) Q E s :=
  let ⟨_, _, _, p⟩ := pat43 X; pat_method p RF.slot_match RF.type_match h
theorem match43_none (X : (hd.heap_1 w.params).In s.heap) (hnl : ∀ y ∈ l, y ≠ 10 ∧ y < 256) (h8 : 8 ≤ l.length) (hl : l.length ≤ 100000) (hno : ∀ p, p ≤ l.length → matchAt l p = false) (h : Q .none s) :
    wpAny (model prog w) A (call (.builtin "re.Pattern.match") [.ref 43, .bytes (BB l) t]) Q E s := by
  obtain ⟨T, fs, items, p⟩ := pat43 X
  have hT : s.TypeIs (.ref 43) "re.Pattern" := by obtain ⟨⟨o, ho, _, hc, _⟩, _⟩ := p; exact ⟨o, ho, hc⟩
  refine call_meets (S := fun _ R s' => s' = s ∧ R (.ok (.ret .none)) s') RF.slot_match hT RF.entry_match (RF.args_match _ _) ?_ ⟨rfl, h⟩
  refine .of_wp fun prog w A R s' hS => ?_
  obtain ⟨rfl, hr⟩ := hS
  show wpAny _ _ (reTarget "re.Pattern.match" "match" ⟨[.ref 43, .bytes (BB l) t], []⟩ >>= fun t => reAnswer t (Sre.forMatch t.code t.text t.groups t.pos t.lim false false)) _ _ _
  refine wpAny_bind (target_bytes p (fun y hy => (hnl y hy).2) hl ?_)
  unfold reAnswer
  obtain ⟨n, f, hn, e, hf⟩ := RZ.match_none (fun y hy => (hnl y hy).1) h8 hl hno
  refine wpAny_bind (run_end e hn false hf ?_)
  exact wpAny_pure ⟨_, rfl, hr⟩
theorem match43_hit {q0 k : Nat} (X : (hd.heap_1 w.params).In h₀) (F : Fr h₀ L s.heap m) (N : News h₀ L s.heap news) (hnl : ∀ y ∈ l, y ≠ 10 ∧ y < 256) (h8 : 8 ≤ l.length) (hl : l.length ≤ 100000) (hm : matchAt l q0 = true) (habove : ∀ p, q0 < p → p ≤ l.length → matchAt l p = false) (hin : ∀ j, j < k → l.toArray.getD (q0 + 7 + j) 0 ≠ 41) (hlt : q0 + 7 + k < l.length) (h41 : l.toArray.getD (q0 + 7 + k) 0 = 41)
    (h : ∀ h' a tp, (∀ p ∈ news, p.1 < a) → Fr h₀ L h' m → News h₀ L h' ((a, matchO 43 tp l t) :: (tp, spansO (q0 + 7) (q0 + 7 + k) (q0 + 7 + k + 1)) :: news) → Q (.ref a) { s with heap := h' }) :
    wpAny (model prog w) A (call (.builtin "re.Pattern.match") [.ref 43, .bytes (BB l) t]) Q E s := by
  obtain ⟨T, fs, items, p⟩ := pat43 (X.keeps F.keep)
  have hT : s.TypeIs (.ref 43) "re.Pattern" := by obtain ⟨⟨o, ho, _, hc, _⟩, _⟩ := p; exact ⟨o, ho, hc⟩
  refine call_meets (S := fun _ R s' => s' = s ∧ R (.ok (.ret (.ref (s.heap.push (spansO (q0 + 7) (q0 + 7 + k) (q0 + 7 + k + 1))).objs.size))) { s with heap := (s.heap.push (spansO (q0 + 7) (q0 + 7 + k) (q0 + 7 + k + 1))).push (matchO 43 s.heap.objs.size l t) }) RF.slot_match hT RF.entry_match (RF.args_match _ _) ?_ ⟨rfl, ?_⟩
  · refine .of_wp fun prog w A R s' hS => ?_
    obtain ⟨rfl, hr⟩ := hS
    show wpAny _ _ (reTarget "re.Pattern.match" "match" ⟨[.ref 43, .bytes (BB l) t], []⟩ >>= fun t => reAnswer t (Sre.forMatch t.code t.text t.groups t.pos t.lim false false)) _ _ _
    refine wpAny_bind (target_bytes p (fun y hy => (hnl y hy).2) hl ?_)
    unfold reAnswer
    obtain ⟨n, f, hn, e, hf, h1, h2, h3, h4, h5⟩ := RZ.match_hit (fun y hy => (hnl y hy).1) h8 hl hm habove hin hlt h41
    refine wpAny_bind (run_end e hn true hf ?_)
    simp only [if_true]
    refine wpAny_bind (newMatch (b := q0 + 7) (e := q0 + 7 + k) (hd := q0 + 7 + k + 1) h1 h2 h3 h4 h5 (Nat.le_add_right _ _) ?_)
    exact wpAny_pure ⟨_, rfl, hr⟩
  · have N1 := News.push F N (spansO (q0 + 7) (q0 + 7 + k) (q0 + 7 + k + 1))
    have F1 := Fr.push F (spansO (q0 + 7) (q0 + 7 + k) (q0 + 7 + k + 1))
    refine h _ _ _ (fun p hp => ?_) (Fr.push F1 _) (News.push F1 N1 _)
    have := Heap.lt_size (N p hp).1
    rw [Heap.size_push]
    exact Nat.lt_succ_of_lt this
end
section
open PySem.Builtin PySem.Builtin.Re
namespace RF
theorem str_no_index : typeLookup (.type "str") "__index__" = pure none := by rw [typeLookup_type, builtinLookup_eq_fast]; kernel_rfl
theorem mat_no_bool : typeLookup (.type "re.Match") "__bool__" = pure none := by rw [typeLookup_type, builtinLookup_eq_fast]; kernel_rfl
theorem mat_no_len : typeLookup (.type "re.Match") "__len__" = pure none := by rw [typeLookup_type, builtinLookup_eq_fast]; kernel_rfl
end RF
variable {prog : Program} {w : World} {A : Around} {E : Value → Shared → Prop} {s : Shared} {h₀ : Heap} {L a tp : Addr} {m : Str → Option Value} {news : Led} {l : List Nat} {t u : Tok} {b e hnd : Nat}
theorem method_mat {M : Model} {A : Around} {E : Value → Shared → Prop} {s : Shared} {pl : Sem Bool} {Q : Value × List Value → Shared → Prop} (ho : s.heap.get? a = some (matchO 43 tp l t)) (h : Q (.builtin "re.Match.group", [.ref a]) s) : wpAny M A (getMethod (.ref a) (Str.ofString "group") pl) Q E s :=
  getMethod_builtin ⟨_, ho, rfl⟩ RF.plain_mat RF.slot_group RF.type_group (fun x e => by cases e; exact ⟨_, ho, rfl⟩) h
theorem truthy_mat {M : Model} {A : Around} {E : Value → Shared → Prop} {s : Shared} {Q : Bool → Shared → Prop} (ho : s.heap.get? a = some (matchO 43 tp l t)) (h : Q true s) : wpAny M A (truthy (.ref a)) Q E s := by
  have hT : s.TypeIs (.ref a) "re.Match" := ⟨_, ho, rfl⟩
  unfold truthy
  refine wpAny_bind (m := callSpecial? (.ref a) (Str.ofString "__bool__")) (wpAny_bind (wpAny_specialOf hT RF.mat_no_bool (wpAny_pure ?_)))
  dsimp only
  refine wpAny_bind (wpAny_specialOf hT RF.mat_no_len ?_)
  exact wpAny_pure h
theorem flags_map {h : Heap} (X : (hd.heap_1 w.params).In h) : h.MapOf (strKind prog w) 40 (fun k => if k = Str.ofString "flags" then some (.int 1 335) else none) := by
  refine ⟨_, _, _, X 40 _ rfl, ⟨rfl, rfl, rfl⟩, rfl, ?_, ?_⟩
  · intro e he
    have : e = { hash := PyData.keyHash w.params (Str.ofString "flags"), key := Value.str (Str.ofString "flags") 334, val := Value.int 1 335 } := by simpa using he
    subst this
    exact ⟨Str.ofString "flags", strKind_is prog w _ _, rfl⟩
  · intro k
    have e1 : (strKind prog w).is k (Value.str (Str.ofString "flags") 334) = decide (k = Str.ofString "flags") := KeyKind.is_eq_decide (strKind_is prog w _ _) k
    unfold findBy
    by_cases hk : k = Str.ofString "flags"
    · subst hk
      simp [e1]
    · simp [e1, hk]
theorem group_call {ls : List Nat} {Q : Value → Shared → Prop} (X : (hd.heap_1 w.params).In s.heap) (ho : s.heap.get? a = some (matchO 43 tp l t)) (hp : s.heap.get? tp = some (spansO b e hnd)) (hs : ∀ y ∈ l, y < 256) (hl : l.length ≤ 100000) (hls : (l.drop b).take (e - b) = ls)
    (h : ∀ t' k, Q (.bytes (BB ls) t') { s with toks := k }) : wpAny (model prog w) A (call (.builtin "re.Match.group") [.ref a, .str (Str.ofString "flags") u]) Q E s := by
  refine call_meetsIn (S := fun _ R s' => s' = s ∧ ∀ t' k, R (.ok (.ret (.bytes (BB ls) t'))) { s with toks := k }) RF.slot_group ⟨_, ho, rfl⟩ RF.entry_group (RF.args_group _ _) ?_ ⟨rfl, h⟩
  refine .of_wp fun A R s' hS => ?_
  obtain ⟨rfl, hr⟩ := hS
  have hO : s'.heap.get? 43 = some _ := X 43 _ rfl
  unfold Builtin.«re.Match.group»
  refine wpAny_bind (wpAny_of_eq (a := ()) rfl ?_)
  dsimp only
  refine wpAny_bind ?_
  unfold reFound
  refine wpAny_bind (wpAny_fieldsOf ho rfl ?_)
  refine wpAny_bind ?_
  show wpAny _ _ (reRawItems (.ref tp)) _ _ _
  refine rawItems ⟨_, _, hp, rfl⟩ (wpAny_pure ?_)
  have hsp : Array.map reRawOf #[rawInt (0 : Nat), rawInt hnd, rawInt b, rawInt e] = #[0, (hnd : Int), (b : Int), (e : Int)] := by simp [reRawOf, rawInt]
  rw [show (#[rawInt 0, rawInt hnd, rawInt b, rawInt e] : Array Value) = #[rawInt (0 : Nat), rawInt hnd, rawInt b, rawInt e] from rfl, hsp]
  refine wpAny_bind ?_
  unfold reGroupNumber
  refine wpAny_bind (wpAny_of_eq (a := none) rfl ?_)
  refine bm_if_false rfl ?_
  refine wpAny_bind (wpAny_specialOf (T := "str") (typeIs_str _ _ _) RF.str_no_index ?_)
  refine bm_if_false rfl ?_
  refine wpAny_bind ?_
  show wpAny _ _ (fieldsOf (.ref 43)) _ _ _
  refine wpAny_fieldsOf hO rfl ?_
  show wpAny _ _ (dictGet 40 (.str (Str.ofString "flags") u) >>= _) _ _ _
  refine wpAny_bind (wpAny_dictGet_of (strKind_is prog w _ _) (flags_map X) ?_)
  rw [if_pos rfl]
  dsimp only
  refine wpAny_bind (wpAny_of_eq (a := some 1) rfl ?_)
  refine wpAny_bind (wpAny_pure ?_)
  show wpAny _ _ (pure (Int.toNat 1)) _ _ _
  refine wpAny_pure ?_
  refine wpAny_bind ?_
  unfold reGroupText
  show wpAny _ _ (if (decide ((b : Int) < 0) || decide ((e : Int) < 0)) = true then _ else _) _ _ _
  refine bm_if_false (by simp) ?_
  refine wpAny_bind (wpAny_of_eq (textOf_bytes _ t) ?_)
  dsimp only
  rw [map_BB hs]
  show wpAny _ _ (reSlice l.toArray 1 ((b : Int).toNat) ((e : Int).toNat)) _ _ _
  rw [Int.toNat_natCast, Int.toNat_natCast]
  refine slice_bytes hl fun t' k' => ?_
  rw [hls]
  exact wpAny_pure ⟨_, rfl, hr _ _⟩
end
end
theorem off_R1 : True := by
  w_top off
  trivial
section
namespace RF
theorem slot_split : Slot "bytes" "split" "bytes.split" :=
  .of (owner := "bytes") (n := "split") (by rw [typeLookup_type, builtinLookup_eq_fast]; kernel_rfl) (by decide +kernel) (by decide +kernel) (by decide +kernel)
    (by first | exact .inl (by decide +kernel) | exact .inr (by decide +kernel)) (by rw [isSubtype_type]; kernel_rfl)
theorem type_split : typeOf (.builtin "bytes.split") = pure (.type "method_descriptor") := by show builtinType _ = _; rw [builtinType_eq_fast]; kernel_rfl
theorem entry_split : entryFor table "bytes.split" = some Builtin.«bytes.split» := entryFor_of_tree (by kernel_rfl)
theorem args_split1 (a : Value) : argsOk "bytes.split" ⟨[a], []⟩ := by unfold argsOk; rw [signature?_of (id := "bytes.split") (n := ['t', 'i', 'l', 'p', 's']) (o := ['s', 'e', 't', 'y', 'b']) (by kernel_rfl) FB.owner_bytes]; kernel_rfl
theorem args_split2 (a b : Value) : argsOk "bytes.split" ⟨[a, b], []⟩ := by unfold argsOk; rw [signature?_of (id := "bytes.split") (n := ['t', 'i', 'l', 'p', 's']) (o := ['s', 'e', 't', 'y', 'b']) (by kernel_rfl) FB.owner_bytes]; kernel_rfl
theorem slot_index : Slot "bytes" "index" "bytes.index" :=
  .of (owner := "bytes") (n := "index") (by rw [typeLookup_type, builtinLookup_eq_fast]; kernel_rfl) (by decide +kernel) (by decide +kernel) (by decide +kernel)
    (by first | exact .inl (by decide +kernel) | exact .inr (by decide +kernel)) (by rw [isSubtype_type]; kernel_rfl)
theorem type_index : typeOf (.builtin "bytes.index") = pure (.type "method_descriptor") := by show builtinType _ = _; rw [builtinType_eq_fast]; kernel_rfl
theorem entry_index : entryFor table "bytes.index" = some Builtin.«bytes.index» := entryFor_of_tree (by kernel_rfl)
theorem args_index (a b : Value) : argsOk "bytes.index" ⟨[a, b], []⟩ := by unfold argsOk; rw [signature?_of (id := "bytes.index") (n := ['x', 'e', 'd', 'n', 'i']) (o := ['s', 'e', 't', 'y', 'b']) (by kernel_rfl) FB.owner_bytes]; kernel_rfl
end RF
section
open PySem.Builtin PySem.Builtin.Bytes
variable {M : Model} {A : Around} {E : Value → Shared → Prop} {s : Shared} {t u : Tok} {pl : Sem Bool} {b : Array UInt8}
theorem method_split {Q : Value × List Value → Shared → Prop} (h : Q (.builtin "bytes.split", [.bytes b t]) s) : wpAny M A (getMethod (.bytes b t) (Str.ofString "split") pl) Q E s := by
  with_reducible exact getMethod_builtin (v := .bytes b t) (typeIs_bytes _ _ _) FB.plainAttrs_bytes RF.slot_split RF.type_split (fun _ e => nomatch e) h
theorem method_index {Q : Value × List Value → Shared → Prop} (h : Q (.builtin "bytes.index", [.bytes b t]) s) : wpAny M A (getMethod (.bytes b t) (Str.ofString "index") pl) Q E s := by
  with_reducible exact getMethod_builtin (v := .bytes b t) (typeIs_bytes _ _ _) FB.plainAttrs_bytes RF.slot_index RF.type_index (fun _ e => nomatch e) h
theorem mapM_new {Q : List Value → Shared → Prop} : ∀ (ls : List (List Nat)) (s : Shared), (∀ l ∈ ls, l.length ≤ 100000) → (∀ vs k, BytesAre vs ls → Q vs { s with toks := k }) → wpAny M A ((ls.map BB).mapM Kind.bytes.new) Q E s
  | [], s, _, h => by
    rw [List.map_nil, List.mapM_nil]
    exact wpAny_pure (h [] s.toks .nil)
  | l :: r, s, hl, h => by
    rw [List.map_cons, List.mapM_cons]
    refine wpAny_bind ?_
    show wpAny M A (mkBytes (BB l)) _ E s
    refine wpAny_mkBytes ?_ (by rw [BB_size, sizeLine_eq]; have := hl l (.head _); omega)
    refine wpAny_bind (mapM_new r _ (fun x hx => hl x (.tail _ hx)) fun vs k hb => ?_)
    exact wpAny_pure (h _ k (.cons _ _ hb))
end
section
noncomputable def crlfStep (b : Array UInt8) (acc : List Nat × Nat) (i : Nat) : List Nat × Nat :=
  if (decide (i ≥ acc.2) && b.extract i (i + 2) == BB [13, 10]) = true then (i :: acc.1, i + 2) else acc
noncomputable def isCrlf (l : List Nat) (i : Nat) : Bool := (l.drop i).take 2 == [13, 10]
theorem BB_inj {a b : List Nat} (ha : ∀ y ∈ a, y < 256) (hb : ∀ y ∈ b, y < 256) (h : BB a = BB b) : a = b := by
  have := congrArg (fun x => x.map (·.toNat)) h
  simp only [map_BB ha, map_BB hb] at this
  exact List.toArray_inj this
theorem extract_BB' (l : List Nat) (p q : Nat) : (BB l).extract p q = BB ((l.drop p).take (q - p)) := by
  apply Array.ext'
  simp only [BB, Array.toList_extract, List.map_take, List.map_drop]
theorem crlf_eq {l : List Nat} (hs : ∀ y ∈ l, y < 256) (i : Nat) : ((BB l).extract i (i + 2) == BB [13, 10]) = isCrlf l i := by
  rw [extract_BB', show i + 2 - i = 2 by omega]
  unfold isCrlf
  by_cases h : (l.drop i).take 2 = [13, 10]
  · rw [h]; simp
  · rw [beq_eq_false_iff_ne.mpr h, beq_eq_false_iff_ne]
    exact fun e => h (BB_inj (fun y hy => hs y (List.mem_of_mem_drop (List.mem_of_mem_take hy))) (by decide) e)
theorem fold_none {l : List Nat} (hs : ∀ y ∈ l, y < 256) : ∀ (n p : Nat) (acc : List Nat × Nat), (∀ i, p ≤ i → i < p + n → isCrlf l i = false) → (List.range' p n).foldl (crlfStep (BB l)) acc = acc
  | 0, _, _, _ => rfl
  | n + 1, p, acc, h => by
    rw [List.range'_succ, List.foldl_cons]
    have e : crlfStep (BB l) acc p = acc := by
      unfold crlfStep
      rw [crlf_eq hs, h p (Nat.le_refl _) (by omega)]
      simp
    rw [e]
    exact fold_none hs n (p + 1) acc fun i h1 h2 => h i (by omega) (by omega)
theorem fold_row {l r rest : List Nat} {p : Nat} {acc : List Nat × Nat} (hs : ∀ y ∈ l, y < 256) (hd : l.drop p = r ++ 13 :: 10 :: rest) (hr : ∀ y ∈ r, y ≠ 13) (hp : acc.2 ≤ p) :
    (List.range' p (r.length + 1)).foldl (crlfStep (BB l)) acc = ((p + r.length) :: acc.1, p + r.length + 2) := by
  rw [← List.range'_append_1, List.foldl_append]
  rw [fold_none hs r.length p acc]
  · show crlfStep (BB l) acc (p + r.length) = _
    unfold crlfStep
    have e : isCrlf l (p + r.length) = true := by
      unfold isCrlf
      rw [← List.drop_drop, hd]
      simp
    rw [crlf_eq hs, e]
    have : decide (p + r.length ≥ acc.2) = true := by simp; omega
    rw [this]
    rfl
  · intro i h1 h2
    unfold isCrlf
    have e : l.drop i = (r.drop (i - p)) ++ 13 :: 10 :: rest := by
      have : l.drop i = (l.drop p).drop (i - p) := by rw [List.drop_drop, show p + (i - p) = i by omega]
      rw [this, hd, List.drop_append_of_le_length (by omega)]
    rw [e]
    have hlt : i - p < r.length := by omega
    rw [List.drop_eq_getElem_cons hlt]
    have := hr _ (List.getElem_mem hlt)
    rw [beq_eq_false_iff_ne]
    intro h
    have h2 := congrArg List.head? h
    simp only [List.cons_append, List.take_succ_cons, List.head?_cons, Option.some.injEq] at h2
    exact this h2
theorem fold_skip {l : List Nat} {p : Nat} {acc : List Nat × Nat} (hp : acc.2 = p + 1) : (List.range' p 1).foldl (crlfStep (BB l)) acc = acc := by
  show crlfStep (BB l) acc p = acc
  unfold crlfStep
  have : decide (p ≥ acc.2) = false := by simp; omega
  rw [this]
  rfl
end
end
theorem off_R2 : True := by
  w_top off
  trivial
section
section
open PySem.Builtin PySem.Builtin.Bytes
theorem crlf_step_eq (b : Array UInt8) : (fun (acc : List Nat × Nat) (i : Nat) => if (decide (i ≥ acc.2) && b.extract i (i + (BB [13, 10]).size) == BB [13, 10]) = true then (i :: acc.1, i + (BB [13, 10]).size) else acc) = crlfStep b := by
  funext acc i
  rfl
/-- the rows of a page, its places -/
theorem page_places {r1 r2 r3 r4 : List Nat} (hs : ∀ y ∈ r1 ++ [13, 10] ++ (r2 ++ [13, 10] ++ (r3 ++ [13, 10] ++ (r4 ++ [13, 10, 13, 10]))), y < 256) (h1 : ∀ y ∈ r1, y ≠ 13) (h2 : ∀ y ∈ r2, y ≠ 13) (h3 : ∀ y ∈ r3, y ≠ 13) (h4 : ∀ y ∈ r4, y ≠ 13) :
    occurrences (BB (r1 ++ [13, 10] ++ (r2 ++ [13, 10] ++ (r3 ++ [13, 10] ++ (r4 ++ [13, 10, 13, 10]))))) (BB [13, 10]) 0 (BB (r1 ++ [13, 10] ++ (r2 ++ [13, 10] ++ (r3 ++ [13, 10] ++ (r4 ++ [13, 10, 13, 10]))))).size
      = [r1.length, r1.length + 2 + r2.length, r1.length + 2 + r2.length + 2 + r3.length, r1.length + 2 + r2.length + 2 + r3.length + 2 + r4.length, r1.length + 2 + r2.length + 2 + r3.length + 2 + r4.length + 2] := by
  have hl : ∃ l, l = r1 ++ [13, 10] ++ (r2 ++ [13, 10] ++ (r3 ++ [13, 10] ++ (r4 ++ [13, 10, 13, 10]))) := ⟨_, rfl⟩
  obtain ⟨l, hl⟩ := hl
  rw [← hl] at hs ⊢
  have hlen : l.length = r1.length + 2 + r2.length + 2 + r3.length + 2 + r4.length + 4 := by rw [hl]; simp; omega
  have hsz : (BB l).size = l.length := BB_size l
  unfold occurrences
  rw [crlf_step_eq]
  have hr : (List.range ((BB l).size + 1 - (0 + (BB [13, 10]).size))).map (· + 0) = List.range' 0 (r1.length + 1) ++ (List.range' (r1.length + 1) 1 ++ (List.range' (r1.length + 2) (r2.length + 1) ++ (List.range' (r1.length + 2 + r2.length + 1) 1 ++ (List.range' (r1.length + 2 + r2.length + 2) (r3.length + 1) ++ (List.range' (r1.length + 2 + r2.length + 2 + r3.length + 1) 1 ++ (List.range' (r1.length + 2 + r2.length + 2 + r3.length + 2) (r4.length + 1) ++ (List.range' (r1.length + 2 + r2.length + 2 + r3.length + 2 + r4.length + 1) 1 ++ List.range' (r1.length + 2 + r2.length + 2 + r3.length + 2 + r4.length + 2) 1))))))) := by
    rw [hsz, hlen, BB_size]
    simp only [Nat.add_zero, List.map_id']
    rw [List.range_eq_range']
    have e := fun (p a b q n : Nat) (h : q = p + a) (h2 : n = a + b) => (show List.range' p a ++ List.range' q b = List.range' p n from by subst h; subst h2; exact List.range'_append_1)
    rw [e (r1.length + 2 + r2.length + 2 + r3.length + 2 + r4.length + 1) 1 1 _ 2 (by first | rfl | omega) (by first | rfl | omega)]
    rw [e (r1.length + 2 + r2.length + 2 + r3.length + 2) (r4.length + 1) 2 _ (r4.length + 3) (by first | rfl | omega) (by first | rfl | omega)]
    rw [e (r1.length + 2 + r2.length + 2 + r3.length + 1) 1 (r4.length + 3) _ (r4.length + 4) (by first | rfl | omega) (by first | rfl | omega)]
    rw [e (r1.length + 2 + r2.length + 2) (r3.length + 1) (r4.length + 4) _ (r3.length + r4.length + 5) (by first | rfl | omega) (by first | rfl | omega)]
    rw [e (r1.length + 2 + r2.length + 1) 1 (r3.length + r4.length + 5) _ (r3.length + r4.length + 6) (by first | rfl | omega) (by first | rfl | omega)]
    rw [e (r1.length + 2) (r2.length + 1) (r3.length + r4.length + 6) _ (r2.length + r3.length + r4.length + 7) (by first | rfl | omega) (by first | rfl | omega)]
    rw [e (r1.length + 1) 1 (r2.length + r3.length + r4.length + 7) _ (r2.length + r3.length + r4.length + 8) (by first | rfl | omega) (by first | rfl | omega)]
    rw [e 0 (r1.length + 1) (r2.length + r3.length + r4.length + 8) _ (r1.length + r2.length + r3.length + r4.length + 9) (by first | rfl | omega) (by first | rfl | omega)]
    congr 1
    simp
    omega
  rw [hr]
  simp only [List.foldl_append]
  have d1 : l.drop 0 = r1 ++ 13 :: 10 :: (r2 ++ [13, 10] ++ (r3 ++ [13, 10] ++ (r4 ++ [13, 10, 13, 10]))) := by rw [hl]; simp
  have d2 : l.drop (r1.length + 2) = r2 ++ 13 :: 10 :: (r3 ++ [13, 10] ++ (r4 ++ [13, 10, 13, 10])) := by
    rw [hl, List.drop_append_of_le_length (by simp), List.drop_eq_nil_of_le (by simp)]; simp
  have d3 : l.drop (r1.length + 2 + r2.length + 2) = r3 ++ 13 :: 10 :: (r4 ++ [13, 10, 13, 10]) := by
    rw [show r1.length + 2 + r2.length + 2 = (r1.length + 2) + (r2.length + 2) from rfl, ← List.drop_drop, d2]
    rw [show r2 ++ 13 :: 10 :: (r3 ++ [13, 10] ++ (r4 ++ [13, 10, 13, 10])) = (r2 ++ [13, 10]) ++ (r3 ++ [13, 10] ++ (r4 ++ [13, 10, 13, 10])) by simp]
    rw [List.drop_append_of_le_length (by simp), List.drop_eq_nil_of_le (by simp)]; simp
  have d4 : l.drop (r1.length + 2 + r2.length + 2 + r3.length + 2) = r4 ++ 13 :: 10 :: [13, 10] := by
    rw [show r1.length + 2 + r2.length + 2 + r3.length + 2 = (r1.length + 2 + r2.length + 2) + (r3.length + 2) from rfl, ← List.drop_drop, d3]
    rw [show r3 ++ 13 :: 10 :: (r4 ++ [13, 10, 13, 10]) = (r3 ++ [13, 10]) ++ (r4 ++ [13, 10, 13, 10]) by simp]
    rw [List.drop_append_of_le_length (by simp), List.drop_eq_nil_of_le (by simp)]; simp
  have d5 : l.drop (r1.length + 2 + r2.length + 2 + r3.length + 2 + r4.length + 2) = ([] : List Nat) ++ 13 :: 10 :: [] := by
    rw [show r1.length + 2 + r2.length + 2 + r3.length + 2 + r4.length + 2 = (r1.length + 2 + r2.length + 2 + r3.length + 2) + (r4.length + 2) from rfl, ← List.drop_drop, d4]
    rw [show r4 ++ 13 :: 10 :: [13, 10] = (r4 ++ [13, 10]) ++ [13, 10] by simp]
    rw [List.drop_append_of_le_length (by simp), List.drop_eq_nil_of_le (by simp)]
  rw [fold_row hs d1 h1 (Nat.le_refl _)]
  rw [fold_skip (p := r1.length + 1) (by simp)]
  rw [fold_row hs d2 h2 (by simp)]
  rw [fold_skip (p := r1.length + 2 + r2.length + 1) (by simp)]
  rw [fold_row hs d3 h3 (by simp)]
  rw [fold_skip (p := r1.length + 2 + r2.length + 2 + r3.length + 1) (by simp)]
  rw [fold_row hs d4 h4 (by simp)]
  rw [fold_skip (p := r1.length + 2 + r2.length + 2 + r3.length + 2 + r4.length + 1) (by simp)]
  have last := fun acc hp => fold_row (acc := acc) hs d5 (fun _ h => nomatch h) hp
  simp only [List.length_nil, Nat.zero_add, Nat.add_zero] at last
  rw [last _ (by simp)]
  simp
theorem page_between {r1 r2 r3 r4 : List Nat} :
    between (BB (r1 ++ [13, 10] ++ (r2 ++ [13, 10] ++ (r3 ++ [13, 10] ++ (r4 ++ [13, 10, 13, 10]))))) 2 [r1.length, r1.length + 2 + r2.length, r1.length + 2 + r2.length + 2 + r3.length, r1.length + 2 + r2.length + 2 + r3.length + 2 + r4.length, r1.length + 2 + r2.length + 2 + r3.length + 2 + r4.length + 2]
      = [r1, r2, r3, r4, [], []].map BB := by
  have cut : ∀ (pre r post : List Nat) (a b : Nat), a = pre.length → b = a + r.length → (BB (pre ++ r ++ post)).extract a b = BB r := by
    intro pre r post a b ha hb
    subst ha; subst hb
    rw [extract_BB', List.append_assoc, List.drop_left, Nat.add_sub_cancel_left, List.take_left]
  unfold between
  simp only [List.foldl_cons, List.foldl_nil, List.map_cons, List.map_nil]
  have hl : ∃ l, l = r1 ++ [13, 10] ++ (r2 ++ [13, 10] ++ (r3 ++ [13, 10] ++ (r4 ++ [13, 10, 13, 10]))) := ⟨_, rfl⟩
  obtain ⟨l, hl⟩ := hl
  rw [← hl]
  have c1 : (BB l).extract 0 r1.length = BB r1 := by
    rw [show l = [] ++ r1 ++ ([13, 10] ++ (r2 ++ [13, 10] ++ (r3 ++ [13, 10] ++ (r4 ++ [13, 10, 13, 10])))) by rw [hl]; simp]
    exact cut _ _ _ _ _ (by simp) (by simp)
  have c2 : (BB l).extract (r1.length + 2) (r1.length + 2 + r2.length) = BB r2 := by
    rw [show l = (r1 ++ [13, 10]) ++ r2 ++ ([13, 10] ++ (r3 ++ [13, 10] ++ (r4 ++ [13, 10, 13, 10]))) by rw [hl]; simp]
    exact cut _ _ _ _ _ (by simp) (by simp)
  have c3 : (BB l).extract (r1.length + 2 + r2.length + 2) (r1.length + 2 + r2.length + 2 + r3.length) = BB r3 := by
    rw [show l = (r1 ++ [13, 10] ++ r2 ++ [13, 10]) ++ r3 ++ ([13, 10] ++ (r4 ++ [13, 10, 13, 10])) by rw [hl]; simp]
    exact cut _ _ _ _ _ (by simp; omega) (by simp)
  have c4 : (BB l).extract (r1.length + 2 + r2.length + 2 + r3.length + 2) (r1.length + 2 + r2.length + 2 + r3.length + 2 + r4.length) = BB r4 := by
    rw [show l = (r1 ++ [13, 10] ++ r2 ++ [13, 10] ++ r3 ++ [13, 10]) ++ r4 ++ [13, 10, 13, 10] by rw [hl]; simp]
    exact cut _ _ _ _ _ (by simp; omega) (by simp)
  have c5 : (BB l).extract (r1.length + 2 + r2.length + 2 + r3.length + 2 + r4.length + 2) (r1.length + 2 + r2.length + 2 + r3.length + 2 + r4.length + 2) = BB [] := by
    rw [extract_BB']; simp
  have c6 : (BB l).extract (r1.length + 2 + r2.length + 2 + r3.length + 2 + r4.length + 2 + 2) (BB l).size = BB [] := by
    rw [extract_BB', BB_size, List.drop_eq_nil_of_le (by rw [hl]; simp; omega)]; simp
  rw [c1, c2, c3, c4, c5, c6]
  rfl
end
end
theorem off_R3 : True := by
  w_top off
  trivial
section
section
open PySem.Builtin PySem.Builtin.Bytes
variable {prog : Program} {w : World} {A : Around} {E : Value → Shared → Prop} {s : Shared} {t u : Tok} {Q : Value → Shared → Prop} {h₀ : Heap} {L : Addr} {m : Str → Option Value} {news : Led}
theorem bytesLike_eq {M : Model} {A : Around} {s : Shared} {b : Array UInt8} {id : String} {Q : Array UInt8 → Shared → Prop} (h : Q b s) : wpAny M A (bytesLike id (.bytes b t)) Q E s := by
  unfold bytesLike
  refine wpAny_bind (wpAny_of_eq KBy.buffer_eq ?_)
  exact wpAny_pure h
theorem split_crlf {l : List Nat} {places : List Nat} {ls : List (List Nat)} (hp : occurrences (BB l) (BB [13, 10]) 0 (BB l).size = places) (hne : places.isEmpty = false) (htake : places.length ≤ l.length + 1) (hb : between (BB l) 2 places = ls.map BB) (hls : ∀ x ∈ ls, x.length ≤ 100000) (hn : ls.length ≤ 1000)
    (h : ∀ vs k, BytesAre vs ls → Q (.ref s.heap.objs.size) { s with heap := s.heap.push (listOf vs.toArray 0), toks := k }) :
    wpAny (model prog w) A (call (.builtin "bytes.split") [.bytes (BB l) t, .bytes (BB [13, 10]) u]) Q E s := by
  refine call_meets (S := fun _ R s' => s' = s ∧ ∀ vs k, BytesAre vs ls → R (.ok (.ret (.ref s.heap.objs.size))) { s with heap := s.heap.push (listOf vs.toArray 0), toks := k }) RF.slot_split (typeIs_bytes _ _ _) RF.entry_split (RF.args_split2 _ _) ?_ ⟨rfl, h⟩
  refine .of_wp fun prog w A R s' hS => ?_
  obtain ⟨rfl, hr⟩ := hS
  show wpAny _ _ (splitM .bytes "split" false ⟨[.bytes (BB l) t, .bytes (BB [13, 10]) u], []⟩) _ _ _
  unfold splitM
  dsimp only
  refine wpAny_bind (wpAny_of_eq (a := [some (.bytes (BB [13, 10]) u), none]) rfl ?_)
  dsimp only
  refine wpAny_bind (wpAny_pure ?_)
  refine wpAny_bind (wpAny_of_eq (a := BB l) rfl ?_)
  refine wpAny_bind (bytesLike_eq ?_)
  rw [hp]
  have hlim : (places.take (if ((-1 : Int)) < 0 then (BB l).size + 1 else Int.toNat (-1))) = places := by
    rw [if_pos (by decide), BB_size]
    exact List.take_of_length_le htake
  rw [hlim]
  refine bm_if_false rfl ?_
  simp only [Bool.false_eq_true, if_false]
  refine bm_if_false hne ?_
  rw [show (BB [13, 10]).size = 2 from rfl, hb]
  refine wpAny_bind (mapM_new ls _ hls fun vs k hbs => ?_)
  refine wpAny_bind (wpAny_newList ?_ (by rw [sizeLine_eq, hbs.length]; omega))
  exact wpAny_pure ⟨_, rfl, hr vs k hbs⟩
/-- the page's rows, as the split finds them -/
theorem split_page {d2 d3 d1 : Nat} {v2 v0 v3 v1 : List Nat} (F : Fr h₀ L s.heap m) (N : News h₀ L s.heap news) (e2 : d2 ≤ 10) (e3 : d3 ≤ 10) (e1 : d1 ≤ 10) (l2 : v2.length ≤ 40) (l0 : v0.length ≤ 40) (l3 : v3.length ≤ 40) (l1 : v1.length ≤ 40) (h2 : ∀ y ∈ v2, 32 ≤ y ∧ y ≤ 126) (h0 : ∀ y ∈ v0, 32 ≤ y ∧ y ≤ 126) (h3 : ∀ y ∈ v3, 32 ≤ y ∧ y ≤ 126) (h1 : ∀ y ∈ v1, 32 ≤ y ∧ y ≤ 126)
    (h : ∀ h' a t2 t0 t3 t1 t4 t5 k, (∀ p ∈ news, p.1 < a) → Fr h₀ L h' m → News h₀ L h' ((a, listOf #[.bytes (BB (rowN d2 v2)) t2, .bytes (BB (rowN 0 v0)) t0, .bytes (BB (rowN d3 v3)) t3, .bytes (BB (rowN d1 v1)) t1, .bytes (BB []) t4, .bytes (BB []) t5] 0) :: news) → Q (.ref a) { s with heap := h', toks := k }) :
    wpAny (model prog w) A (call (.builtin "bytes.split") [.bytes (BB (pageN d2 d3 d1 v2 v0 v3 v1)) t, .bytes #[13, 10] u]) Q E s := by
  have n13 : ∀ {d : Nat} {v : List Nat}, (∀ y ∈ v, 32 ≤ y ∧ y ≤ 126) → ∀ y ∈ rowN d v, y ≠ 13 := fun hv y hy => by
    have := row_signs hv y hy; omega
  have hs : ∀ y ∈ pageN d2 d3 d1 v2 v0 v3 v1, y < 256 := fun y hy => Nat.lt_of_lt_of_le (page_signs h2 h0 h3 h1 y hy) (by decide)
  have hlen := page_len (d2 := d2) (d3 := d3) (d1 := d1) e2 e3 e1 l2 l0 l3 l1
  have r2 := row_len (k := d2) (v := v2) e2 l2
  have r0 := row_len (k := 0) (v := v0) (by omega) l0
  have r3 := row_len (k := d3) (v := v3) e3 l3
  have r1 := row_len (k := d1) (v := v1) e1 l1
  refine split_crlf (l := pageN d2 d3 d1 v2 v0 v3 v1) (ls := [rowN d2 v2, rowN 0 v0, rowN d3 v3, rowN d1 v1, [], []]) (page_places hs (n13 h2) (n13 h0) (n13 h3) (n13 h1)) rfl ?_ page_between ?_ (by simp) fun vs k hb => ?_
  · unfold pageN; simp; omega
  · intro x hx
    simp only [List.mem_cons, List.not_mem_nil, or_false] at hx
    rcases hx with rfl | rfl | rfl | rfl | rfl | rfl <;> first | omega | simp
  · cases hb with
    | cons a1 t1 hb => cases hb with
      | cons a2 t2 hb => cases hb with
        | cons a3 t3 hb => cases hb with
          | cons a4 t4 hb => cases hb with
            | cons a5 t5 hb => cases hb with
              | cons a6 t6 hb => cases hb with
                | nil => exact h _ _ _ _ _ _ _ _ _ (fun p hp => Heap.lt_size (N p hp).1) (Fr.push F _) (News.push F N _)
end
end
theorem off_R4 : True := by
  w_top off
  trivial
section
section
open PySem.Builtin PySem.Builtin.Bytes
variable {prog : Program} {w : World} {A : Around} {E : Value → Shared → Prop} {s : Shared} {t u : Tok} {Q : Value → Shared → Prop} {h₀ : Heap} {L : Addr} {m : Str → Option Value} {news : Led}
theorem t_eq {l : List Nat} (hs : ∀ y ∈ l, y < 256) {i : Nat} (hi : i < l.length) : ((BB l).extract i (i + 1) == BB [116]) = (l[i] == 116) := by
  rw [extract_BB', show i + 1 - i = 1 by omega, List.drop_eq_getElem_cons hi, List.take_succ_cons, List.take_zero]
  by_cases h : l[i] = 116
  · rw [h]; simp
  · rw [beq_eq_false_iff_ne.mpr h, beq_eq_false_iff_ne]
    intro e
    have := BB_inj (fun y hy => by rw [List.mem_singleton.mp hy]; exact hs _ (List.getElem_mem hi)) (by decide) e
    exact h (by simpa using this)
theorem find_first {P : Nat → Bool} : ∀ (n d p : Nat), d < n → (∀ i, i < d → P (p + i) = false) → P (p + d) = true → (List.range' p n).find? P = some (p + d)
  | 0, d, p, h, _, _ => absurd h (Nat.not_lt_zero _)
  | n + 1, 0, p, _, _, h => by
    rw [List.range'_succ, List.find?_cons]
    rw [show P p = true from h]
    rfl
  | n + 1, d + 1, p, hd, hn, h => by
    rw [List.range'_succ, List.find?_cons, show P p = false from hn 0 (by omega)]
    have := find_first n d (p + 1) (by omega) (fun i hi => by have := hn (i + 1) (by omega); rwa [show p + (i + 1) = p + 1 + i by omega] at this) (by rwa [show p + (d + 1) = p + 1 + d by omega] at h)
    rw [this, show p + 1 + d = p + (d + 1) by omega]
theorem find_t {d : Nat} {v : List Nat} (hv : ∀ y ∈ v, 32 ≤ y ∧ y ≤ 126) : find? (BB (rowN d v)) (BB [116]) 0 (BB (rowN d v)).size = some d := by
  have hs : ∀ y ∈ rowN d v, y < 256 := fun y hy => by have := row_signs hv y hy; omega
  have hlen : (rowN d v).length = d + 3 + v.length := by simp [rowN, dotsN]; omega
  unfold find?
  simp only [Nat.add_zero, List.map_id']
  rw [BB_size, BB_size, List.range_eq_range']
  have := find_first (P := fun i => (BB (rowN d v)).extract i (i + [116].length) == BB [116]) ((rowN d v).length + 1 - (0 + [116].length)) d 0 (by rw [hlen]; simp; omega) (fun i hi => ?_) ?_
  · exact this.trans (by rw [Nat.zero_add])
  · rw [Nat.zero_add]
    have hi' : i < (rowN d v).length := by omega
    show ((BB (rowN d v)).extract i (i + 1) == BB [116]) = false
    rw [t_eq hs hi']
    have e : (rowN d v)[i] = 46 := by
      simp only [rowN, dotsN, List.append_assoc]
      rw [List.getElem_append_left (by simpa using hi)]
      simp
    rw [e]; rfl
  · rw [Nat.zero_add]
    have hi' : d < (rowN d v).length := by omega
    show ((BB (rowN d v)).extract d (d + 1) == BB [116]) = true
    rw [t_eq hs hi']
    have e : (rowN d v)[d] = 116 := by
      simp only [rowN, dotsN, List.append_assoc]
      rw [List.getElem_append_right (by simp)]
      simp
    rw [e]; rfl
theorem index_t {d : Nat} {v : List Nat} (hv : ∀ y ∈ v, 32 ≤ y ∧ y ≤ 126) (h : ∀ t' k, Q (.int d t') { s with toks := k }) :
    wpAny (model prog w) A (call (.builtin "bytes.index") [.bytes (BB (rowN d v)) t, .bytes #[116] u]) Q E s := by
  refine call_meets (S := fun _ R s' => s' = s ∧ ∀ t' k, R (.ok (.ret (.int d t'))) { s with toks := k }) RF.slot_index (typeIs_bytes _ _ _) RF.entry_index (RF.args_index _ _) ?_ ⟨rfl, h⟩
  refine .of_wp fun prog w A R s' hS => ?_
  obtain ⟨rfl, hr⟩ := hS
  show wpAny _ _ (searchM .bytes "index" false true ⟨[.bytes (BB (rowN d v)) t, .bytes (BB [116]) u], []⟩) _ _ _
  unfold searchM
  refine wpAny_bind ?_
  unfold searchArgs
  dsimp only
  refine wpAny_bind (wpAny_of_eq (a := (.bytes (BB (rowN d v)) t, [.bytes (BB [116]) u])) rfl ?_)
  dsimp only
  refine wpAny_bind (wpAny_of_eq (a := none) rfl ?_)
  refine wpAny_bind (wpAny_of_eq (a := none) rfl ?_)
  refine wpAny_bind (wpAny_of_eq KBy.buffer_eq ?_)
  dsimp only
  refine wpAny_bind (wpAny_pure ?_)
  refine wpAny_bind (wpAny_of_eq (a := BB (rowN d v)) rfl ?_)
  refine wpAny_pure ?_
  have hlen : (rowN d v).length = d + 3 + v.length := by simp [rowN, dotsN]; omega
  have hw : window (BB (rowN d v)).size none none = (0, ((BB (rowN d v)).size : Int)) := by
    unfold window
    simp only [Option.getD_none, Int.lt_irrefl, if_false]
    rw [if_neg (by omega)]
    simp
  rw [hw]
  dsimp only
  rw [if_neg (by rw [BB_size, BB_size, hlen]; simp; omega)]
  show wpAny _ _ (match find? (BB (rowN d v)) (BB [116]) (Int.toNat 0) ((BB (rowN d v)).size : Int).toNat with | some i => _ | none => _) _ _ _
  rw [Int.toNat_natCast, show Int.toNat 0 = 0 from rfl, find_t hv]
  dsimp only
  refine wpAny_bind (wpAny_mkInt (wpAny_pure ⟨_, rfl, hr _ _⟩))
end
end
theorem off_R5 : True := by
  w_top off
  trivial
section
section
open PySem.Builtin PySem.Builtin.Bytes
variable {prog : Program} {w : World} {A : Around} {E : Value → Shared → Prop} {s : Shared} {t u : Tok} {Q : Value → Shared → Prop} {h₀ : Heap} {L : Addr} {m : Str → Option Value} {news : Led}
noncomputable abbrev innerN (x y : Nat) : List Nat := spJoin (wordsN x y)
theorem words_is (x y : Nat) (hx : x ≤ 15) (hy : y ≤ 15) : words ((BB (innerN x y)).size + 1) ((BB (innerN x y)).size + 1) (BB (innerN x y)).toList = (wordsN x y).map (fun l => (BB l).toList) := by
  have : ∀ x y : Fin 16, words ((BB (innerN x.val y.val)).size + 1) ((BB (innerN x.val y.val)).size + 1) (BB (innerN x.val y.val)).toList = (wordsN x.val y.val).map (fun l => (BB l).toList) := by decide +kernel
  exact this ⟨x, by omega⟩ ⟨y, by omega⟩
theorem one_word (x y : Nat) (hx : x ≤ 15) (hy : y ≤ 15) : (decide ((BB (innerN x y)).size + 1 > 0) && !(BB (innerN x y)).isEmpty && !(BB (innerN x y)).any isSpace) = ((wordsN x y).length == 1) := by
  have : ∀ x y : Fin 16, (decide ((BB (innerN x.val y.val)).size + 1 > 0) && !(BB (innerN x.val y.val)).isEmpty && !(BB (innerN x.val y.val)).any isSpace) = ((wordsN x.val y.val).length == 1) := by decide +kernel
  exact this ⟨x, by omega⟩ ⟨y, by omega⟩
theorem words_len (x y : Nat) : (wordsN x y).length ≤ 2 ∧ ∀ l ∈ wordsN x y, l.length = 2 := by
  unfold wordsN
  by_cases hx : 0 < x <;> by_cases hy : 0 < y <;> simp [hx, hy]
theorem split_words {x y : Nat} (hx : x ≤ 15) (hy : y ≤ 15) (h : ∀ vs k, BytesAre vs (wordsN x y) → Q (.ref s.heap.objs.size) { s with heap := s.heap.push (listOf vs.toArray 0), toks := k }) :
    wpAny (model prog w) A (call (.builtin "bytes.split") [.bytes (BB (innerN x y)) t]) Q E s := by
  refine call_meets (S := fun _ R s' => s' = s ∧ ∀ vs k, BytesAre vs (wordsN x y) → R (.ok (.ret (.ref s.heap.objs.size))) { s with heap := s.heap.push (listOf vs.toArray 0), toks := k }) RF.slot_split (typeIs_bytes _ _ _) RF.entry_split (RF.args_split1 _) ?_ ⟨rfl, h⟩
  refine .of_wp fun prog w A R s' hS => ?_
  obtain ⟨rfl, hr⟩ := hS
  have hlen := words_len x y
  show wpAny _ _ (splitM .bytes "split" false ⟨[.bytes (BB (innerN x y)) t], []⟩) _ _ _
  unfold splitM
  dsimp only
  refine wpAny_bind (wpAny_of_eq (a := [none, none]) rfl ?_)
  dsimp only
  refine wpAny_bind (wpAny_pure ?_)
  refine wpAny_bind (wpAny_of_eq (a := BB (innerN x y)) rfl ?_)
  refine wpAny_bind (wpAny_rule ?_)
  rw [if_pos (by decide : (-1 : Int) < 0)]
  rw [one_word x y hx hy]
  by_cases h1 : (wordsN x y).length = 1
  · refine bm_if_true (by simpa using h1) ?_
    refine wpAny_bind ?_
    show wpAny _ _ (Kind.same .bytes (.bytes (BB (innerN x y)) t)) _ _ _
    unfold Kind.same
    refine bm_if_true rfl ?_
    refine wpAny_bind (wpAny_typeOf (typeIs_bytes _ _ _) ?_)
    refine bm_if_true rfl (wpAny_pure ?_)
    refine wpAny_bind (wpAny_newList ?_ (by rw [sizeLine_eq]; simp))
    refine wpAny_pure ⟨_, rfl, hr [.bytes (BB (innerN x y)) t] _ ?_⟩
    obtain ⟨a, ha⟩ := List.length_eq_one_iff.mp h1
    unfold innerN
    rw [ha]
    exact .cons _ _ .nil
  · refine bm_if_false (by simpa using h1) ?_
    simp only [Bool.false_eq_true, if_false]
    rw [words_is x y hx hy]
    have e : ((wordsN x y).map (fun l => (BB l).toList)).mapM (fun w => Kind.bytes.new w.toArray) = (((wordsN x y).map BB).mapM Kind.bytes.new : Sem (List Value)) := by
      rw [List.mapM_map, List.mapM_map]; rfl
    rw [e]
    refine wpAny_bind (mapM_new _ _ (fun l hl => by rw [hlen.2 l hl]; decide) fun vs k hb => ?_)
    refine wpAny_bind (wpAny_newList ?_ (by rw [sizeLine_eq, hb.length]; omega))
    exact wpAny_pure ⟨_, rfl, hr vs k hb⟩
end
end
theorem off_R6 : True := by
  w_top off
  trivial
section
/-- a row without its dots -/
noncomputable abbrev tailN (x y k : Nat) : List Nat := [116, 58, 32] ++ valN (toldN x y k) k
noncomputable def placeN (k : Nat) : Nat := if k = 0 then 3 else if k = 1 then 19 else 7
noncomputable def noMatch : List Nat → Bool
  | [] => true
  | c :: r => !(flagsLits.isPrefixOf (c :: r)) && noMatch r
theorem noMatch_at : ∀ {l : List Nat}, noMatch l = true → ∀ p, matchAt l p = false
  | [], _, p => by unfold matchAt; simp [List.isPrefixOf]
  | c :: r, h, 0 => by
    unfold noMatch at h
    rw [Bool.and_eq_true, Bool.not_eq_true'] at h
    exact h.1
  | c :: r, h, p + 1 => by
    unfold noMatch at h
    rw [Bool.and_eq_true] at h
    exact noMatch_at h.2 p
noncomputable def chkRow (x y k : Nat) : Bool :=
  if wordsN x y = [] ∧ k ≠ 1 then noMatch (tailN x y k)
  else matchAt (tailN x y k) (placeN k) && noMatch ((tailN x y k).drop (placeN k + 1)) && (((tailN x y k).drop (placeN k + 7)).take (innerN x y).length == innerN x y) && (innerN x y).all (fun c => c != 41) && ((tailN x y k).getD (placeN k + 7 + (innerN x y).length) 0 == 41) && decide (placeN k + 7 + (innerN x y).length < (tailN x y k).length)
theorem chk_row (x y k : Nat) (hx : x ≤ 15) (hy : y ≤ 15) (hk : k ≤ 2) : chkRow x y k = true := by
  have : ∀ x y : Fin 16, ∀ k : Fin 3, chkRow x.val y.val k.val = true := by decide +kernel
  exact this ⟨x, by omega⟩ ⟨y, by omega⟩ ⟨k, by omega⟩
theorem val_len (x y k : Nat) : (valN (toldN x y k) k).length ≤ 40 ∧ 9 ≤ (valN (toldN x y k) k).length := by
  have a2 := told_len x y k
  have a3 : 5 ≤ (toldN x y k).length := by
    unfold toldN
    split
    · simp
    · simp
  unfold valN
  split
  · simp; omega
  · split
    · simp; omega
    · simp; omega
theorem row_tail (d x y k : Nat) : rowN d (valN (toldN x y k) k) = dotsN d ++ tailN x y k := by simp [rowN]
theorem match_dots (d : Nat) (v : List Nat) (p : Nat) : matchAt (dotsN d ++ v) p = (decide (d ≤ p) && matchAt v (p - d)) := by
  unfold matchAt
  by_cases h : d ≤ p
  · rw [show p = d + (p - d) by omega, ← List.drop_drop]
    rw [show (dotsN d ++ v).drop d = v by rw [List.drop_append_of_le_length (by simp [dotsN]), List.drop_eq_nil_of_le (by simp [dotsN])]; rfl]
    simp
  · have hlt : p < (dotsN d).length := by simp [dotsN]; omega
    rw [List.drop_append_of_le_length (Nat.le_of_lt hlt), List.drop_eq_getElem_cons hlt]
    have : (dotsN d)[p] = 46 := by simp [dotsN]
    rw [this]
    simp [h, List.isPrefixOf]
theorem row_none {d x y k : Nat} (hx : x ≤ 15) (hy : y ≤ 15) (hk : k ≤ 2) (h : wordsN x y = [] ∧ k ≠ 1) (p : Nat) : matchAt (rowN d (valN (toldN x y k) k)) p = false := by
  have c := chk_row x y k hx hy hk
  unfold chkRow at c
  rw [if_pos h] at c
  rw [row_tail, match_dots, noMatch_at c, Bool.and_false]
theorem row_hit {d x y k : Nat} (hx : x ≤ 15) (hy : y ≤ 15) (hk : k ≤ 2) (h : ¬ (wordsN x y = [] ∧ k ≠ 1)) :
    matchAt (rowN d (valN (toldN x y k) k)) (d + placeN k) = true ∧ (∀ p, d + placeN k < p → p ≤ (rowN d (valN (toldN x y k) k)).length → matchAt (rowN d (valN (toldN x y k) k)) p = false) ∧
    (∀ j, j < (innerN x y).length → (rowN d (valN (toldN x y k) k)).toArray.getD (d + placeN k + 7 + j) 0 ≠ 41) ∧ d + placeN k + 7 + (innerN x y).length < (rowN d (valN (toldN x y k) k)).length ∧ (rowN d (valN (toldN x y k) k)).toArray.getD (d + placeN k + 7 + (innerN x y).length) 0 = 41 ∧
    ((rowN d (valN (toldN x y k) k)).drop (d + placeN k + 7)).take (d + placeN k + 7 + (innerN x y).length - (d + placeN k + 7)) = innerN x y := by
  have c := chk_row x y k hx hy hk
  unfold chkRow at c
  rw [if_neg h] at c
  simp only [Bool.and_eq_true, decide_eq_true_eq, beq_iff_eq] at c
  obtain ⟨⟨⟨⟨⟨c1, c2⟩, c3⟩, c4⟩, c5⟩, c6⟩ := c
  have hdr : ∀ i, (dotsN d ++ tailN x y k).drop (d + i) = (tailN x y k).drop i := fun i => by
    rw [← List.drop_drop]
    rw [show (dotsN d ++ tailN x y k).drop d = tailN x y k by rw [List.drop_append_of_le_length (by simp [dotsN]), List.drop_eq_nil_of_le (by simp [dotsN])]; rfl]
  have hgd : ∀ i, (dotsN d ++ tailN x y k).toArray.getD (d + i) 0 = (tailN x y k).getD i 0 := fun i => by
    have e : (dotsN d ++ tailN x y k).toArray.getD (d + i) 0 = (dotsN d ++ tailN x y k).getD (d + i) 0 := by simp [Array.getD_eq_getD_getElem?]
    rw [e, List.getD_eq_getElem?_getD, List.getD_eq_getElem?_getD, List.getElem?_append_right (by simp [dotsN])]
    simp [dotsN]
  have hlen : (dotsN d ++ tailN x y k).length = d + (tailN x y k).length := by simp [dotsN]
  rw [row_tail]
  refine ⟨?_, ?_, ?_, ?_, ?_, ?_⟩
  · rw [match_dots, Nat.add_sub_cancel_left, c1]; simp
  · intro p hp _
    have e := noMatch_at c2 (p - d - (placeN k + 1))
    unfold matchAt at e
    rw [List.drop_drop, show placeN k + 1 + (p - d - (placeN k + 1)) = p - d from Nat.add_sub_cancel' (Nat.le_sub_of_add_le (by omega))] at e
    have e' : matchAt (tailN x y k) (p - d) = false := e
    rw [match_dots, e', Bool.and_false]
  · intro j hj
    rw [show d + placeN k + 7 + j = d + (placeN k + 7 + j) from Nat.add_assoc d (placeN k + 7) j, hgd]
    have e1 : (tailN x y k).getD (placeN k + 7 + j) 0 = (innerN x y)[j] := by
      have e2 : ((tailN x y k).drop (placeN k + 7)).take (innerN x y).length = innerN x y := c3
      have e3 : (innerN x y)[j]? = (tailN x y k)[placeN k + 7 + j]? := by
        conv => lhs; rw [← e2]
        rw [List.getElem?_take, if_pos hj, List.getElem?_drop]
      rw [List.getD_eq_getElem?_getD, ← e3, List.getElem?_eq_getElem hj]
      rfl
    rw [e1]
    have := List.all_eq_true.mp c4 _ (List.getElem_mem hj)
    simpa using this
  · rw [hlen]; omega
  · rw [show d + placeN k + 7 + (innerN x y).length = d + (placeN k + 7 + (innerN x y).length) from Nat.add_assoc d (placeN k + 7) _, hgd]
    exact c5
  · rw [Nat.add_sub_cancel_left, show d + placeN k + 7 = d + (placeN k + 7) from rfl, hdr]
    exact c3
end
theorem off_W12 : True := by
  w_top off
  trivial
section
section
variable {w : World} {prog : Program} {A : Around} {E : Value → Shared → Prop} {s : Shared} {h₀ : Heap} {L : Addr} {m : Str → Option Value} {news : Led} {t u : Tok} {Q : Value → Shared → Prop} {d x y k : Nat}
theorem row_sm (hx : x ≤ 15) (hy : y ≤ 15) (hk : k ≤ 2) (hd : d ≤ 10) : (∀ c ∈ rowN d (valN (toldN x y k) k), c ≠ 10 ∧ c < 256) ∧ 8 ≤ (rowN d (valN (toldN x y k) k)).length ∧ (rowN d (valN (toldN x y k) k)).length ≤ 100000 := by
  have hl := val_len x y k
  refine ⟨fun c hc => ?_, ?_, ?_⟩
  · have := row_signs (val_signs x y k hx hy hk) c hc
    omega
  · simp [rowN]; omega
  · exact Nat.le_trans (row_len hd hl.1) (by decide)
theorem flags_none (X : (hd.heap_1 w.params).In h₀) (F : Fr h₀ L s.heap m) (hx : x ≤ 15) (hy : y ≤ 15) (hk : k ≤ 2) (hd : d ≤ 10) (hc : wordsN x y = [] ∧ k ≠ 1) (h : Q .none s) :
    wpAny (model prog w) A (call (.builtin "re.Pattern.match") [.ref 43, .bytes (BB (rowN d (valN (toldN x y k) k))) t]) Q E s :=
  match43_none (X.keeps F.keep) (row_sm hx hy hk hd).1 (row_sm hx hy hk hd).2.1 (row_sm hx hy hk hd).2.2 (fun p _ => row_none hx hy hk hc p) h
theorem flags_hit (X : (hd.heap_1 w.params).In h₀) (F : Fr h₀ L s.heap m) (N : News h₀ L s.heap news) (hx : x ≤ 15) (hy : y ≤ 15) (hk : k ≤ 2) (hd : d ≤ 10) (hc : ¬ (wordsN x y = [] ∧ k ≠ 1))
    (h : ∀ h' a tp, (∀ p ∈ news, p.1 < a) → Fr h₀ L h' m → News h₀ L h' ((a, matchO 43 tp (rowN d (valN (toldN x y k) k)) t) :: (tp, spansO (d + placeN k + 7) (d + placeN k + 7 + (innerN x y).length) (d + placeN k + 7 + (innerN x y).length + 1)) :: news) → Q (.ref a) { s with heap := h' }) :
    wpAny (model prog w) A (call (.builtin "re.Pattern.match") [.ref 43, .bytes (BB (rowN d (valN (toldN x y k) k))) t]) Q E s := by
  have r := row_hit (d := d) hx hy hk hc
  exact match43_hit X F N (row_sm hx hy hk hd).1 (row_sm hx hy hk hd).2.1 (row_sm hx hy hk hd).2.2 r.1 r.2.1 r.2.2.1 r.2.2.2.1 r.2.2.2.2.1 h
theorem flags_group {a tp : Addr} (X : (hd.heap_1 w.params).In h₀) (F : Fr h₀ L s.heap m) (N : News h₀ L s.heap news) (hx : x ≤ 15) (hy : y ≤ 15) (hk : k ≤ 2) (hd : d ≤ 10) (hc : ¬ (wordsN x y = [] ∧ k ≠ 1)) (m1 : (a, matchO 43 tp (rowN d (valN (toldN x y k) k)) t) ∈ news) (m2 : (tp, spansO (d + placeN k + 7) (d + placeN k + 7 + (innerN x y).length) (d + placeN k + 7 + (innerN x y).length + 1)) ∈ news)
    (h : ∀ t' k', Q (.bytes (BB (innerN x y)) t') { s with toks := k' }) : wpAny (model prog w) A (call (.builtin "re.Match.group") [.ref a, .str (Str.ofString "flags") u]) Q E s :=
  group_call (X.keeps F.keep) (N _ m1).1 (N _ m2).1 (fun c hc => ((row_sm hx hy hk hd).1 c hc).2) (row_sm hx hy hk hd).2.2 (row_hit (d := d) hx hy hk hc).2.2.2.2.2 h
theorem words_fit {vs : List Value} (hb : BytesAre vs (wordsN x y)) : vs.toArray.size ≤ 16384 := by
  have := (words_len x y).1
  rw [List.size_toArray, hb.length]; omega
theorem truthy_matN {M : Model} {a tp : Addr} {l : List Nat} {Q : Bool → Shared → Prop} (N : News h₀ L s.heap news) (hm : (a, matchO 43 tp l t) ∈ news) (h : Q true s) : wpAny M A (truthy (.ref a)) Q E s := truthy_mat (N _ hm).1 h
theorem method_matN {M : Model} {a tp : Addr} {l : List Nat} {pl : Sem Bool} {Q : Value × List Value → Shared → Prop} (N : News h₀ L s.heap news) (hm : (a, matchO 43 tp l t) ∈ news) (h : Q (.builtin "re.Match.group", [.ref a]) s) : wpAny M A (getMethod (.ref a) (Str.ofString "group") pl) Q E s := method_mat (N _ hm).1 h
theorem split_wordsN (F : Fr h₀ L s.heap m) (N : News h₀ L s.heap news) (hx : x ≤ 15) (hy : y ≤ 15) (h : ∀ h' a vs k, (∀ p ∈ news, p.1 < a) → BytesAre vs (wordsN x y) → Fr h₀ L h' m → News h₀ L h' ((a, listOf vs.toArray 0) :: news) → Q (.ref a) { s with heap := h', toks := k }) :
    wpAny (model prog w) A (call (.builtin "bytes.split") [.bytes (BB (innerN x y)) t]) Q E s :=
  split_words hx hy fun vs k hb => h _ _ vs k (fun p hp => Heap.lt_size (N p hp).1) hb (Fr.push F _) (News.push F N _)
end
section
local macro_rules | `(tactic| walk_at "call type:tuple") => `(tactic| walk_at "H")
local macro_rules | `(tactic| walk_at "truthy ref") => `(tactic| walk_at "H")
local macro_rules | `(tactic| walk_at "getMethod bytes") => `(tactic| walk_at "H")
local macro_rules | `(tactic| walk_at "call builtin:re.Match.group") => `(tactic| walk_at "H")
local macro_rules | `(tactic| walk_at "call builtin:bytes.split") => `(tactic| walk_at "H")
local macro_rules | `(tactic| walk_at "getMethod ref") => `(tactic| walk_at "H")
local macro_rules | `(tactic| walk_at "call builtin:re.Pattern.match") => `(tactic| walk_at "H")
theorem parse_flags_spec (w : World) (d x y k : Nat) (t : Tok) (hx : x ≤ 15) (hy : y ≤ 15) (hk : k ≤ 2) (hdd : d ≤ 10) : Spec w 16 128 57 [.bytes (BB (rowN d (valN (toldN x y k) k))) t] [] [] (fun _ r n' => ∃ (T : Nat) (vs : List Value), r = .ref T ∧ BytesAre vs (wordsN x y) ∧ n' = [(T, tupO vs)]) := by
  by_cases hc : wordsN x y = [] ∧ k ≠ 1
  all_goals
    ((refine' Spec.enter ?ho ?hcd ?hbind ?hloc ?c2 ?c3 ?c4 ?c5 ?hdd ?_); (case ho => k_is); (case hcd => k_is); (case hbind => first | exact (fun _ _ => BindsTo.of_eq rfl) | (intro _ hX; exact binds_K hX rfl (by k_is) rfl rfl rfl)); (case hloc => exact locs rfl); (case c2 => exact rfl); (case c3 => exact rfl); (case c4 => exact rfl); (case c5 => decide); (case hdd => decide); skip)
    intro loose mean mg mb dp un gd outer A₀ base g L h₁ s Q tk hB hF hX hN hT hd hu hG hQ
    (try dsimp only); (try k_fold)
    (repeat' (first | (unfold Hold; first | ((with_reducible show wpAny _ _ (call (Value.builtin "re.Pattern.match") _ _) _ _ _); first | (with_reducible (k_dflt (first   | (refine' flags_none ?k1 ?k2 ?k3 ?k4 ?k5 ?k6 ?k7 ?_; (case k1 => k_asm); (case k2 => k_asm); (case k3 => assumption); (case k4 => assumption); (case k5 => assumption); (case k6 => assumption); (case k7 => assumption))   | (refine' flags_hit ?j1 ?j2 ?j3 ?j4 ?j5 ?j6 ?j7 ?j8 ?_; (case j1 => k_asm); (case j2 => k_asm); (case j3 => k_asm); (case j4 => assumption); (case j5 => assumption); (case j6 => assumption); (case j7 => assumption); (case j8 => assumption); intro h' a' tp' l1 F' N'; (try k_lt l1))))) | (k_dflt (first   | (refine' flags_none ?k1 ?k2 ?k3 ?k4 ?k5 ?k6 ?k7 ?_; (case k1 => k_asm); (case k2 => k_asm); (case k3 => assumption); (case k4 => assumption); (case k5 => assumption); (case k6 => assumption); (case k7 => assumption))   | (refine' flags_hit ?j1 ?j2 ?j3 ?j4 ?j5 ?j6 ?j7 ?j8 ?_; (case j1 => k_asm); (case j2 => k_asm); (case j3 => k_asm); (case j4 => assumption); (case j5 => assumption); (case j6 => assumption); (case j7 => assumption); (case j8 => assumption); intro h' a' tp' l1 F' N'; (try k_lt l1))))) | ((with_reducible show wpAny _ _ (getMethod _ _ _) _ _ _); first | (with_reducible (k_dflt (first   | (refine' method43 (Frag.In.keeps ?k1 (Fr.keep ?k2)) ?_; (case k1 => k_asm); (case k2 => k_asm))))) | (k_dflt (first   | (refine' method43 (Frag.In.keeps ?k1 (Fr.keep ?k2)) ?_; (case k1 => k_asm); (case k2 => k_asm))))) | ((with_reducible show wpAny _ _ (getMethod _ _ _) _ _ _); first | (with_reducible (k_dflt (refine' method_matN ?k1 ?k2 ?_; (case k1 => k_asm); (case k2 => k_mem)))) | (k_dflt (refine' method_matN ?k1 ?k2 ?_; (case k1 => k_asm); (case k2 => k_mem)))) | ((with_reducible show wpAny _ _ (call (Value.builtin "bytes.split") _ _) _ _ _); first | (with_reducible (k_dflt (refine' split_wordsN ?j1 ?j2 ?j3 ?j4 ?_; (case j1 => k_asm); (case j2 => k_asm); (case j3 => assumption); (case j4 => assumption)); intro h' a' vs' k' l1 hb' F' N'; (try k_lt l1))) | (k_dflt (refine' split_wordsN ?j1 ?j2 ?j3 ?j4 ?_; (case j1 => k_asm); (case j2 => k_asm); (case j3 => assumption); (case j4 => assumption)); intro h' a' vs' k' l1 hb' F' N'; (try k_lt l1))) | ((with_reducible show wpAny _ _ (call (Value.builtin "re.Match.group") _ _) _ _ _); first | (with_reducible (k_dflt (refine' flags_group ?j1 ?j2 ?j3 ?j4 ?j5 ?j6 ?j7 ?j8 ?j9 ?i1 ?_; (case j1 => k_asm); (case j2 => k_asm); (case j3 => k_asm); (case j9 => k_mem); (case i1 => k_mem); (case j4 => assumption); (case j5 => assumption); (case j6 => assumption); (case j7 => assumption); (case j8 => assumption)); intro t' k')) | (k_dflt (refine' flags_group ?j1 ?j2 ?j3 ?j4 ?j5 ?j6 ?j7 ?j8 ?j9 ?i1 ?_; (case j1 => k_asm); (case j2 => k_asm); (case j3 => k_asm); (case j9 => k_mem); (case i1 => k_mem); (case j4 => assumption); (case j5 => assumption); (case j6 => assumption); (case j7 => assumption); (case j8 => assumption)); intro t' k')) | ((with_reducible show wpAny _ _ (getMethod (Value.bytes _ _) (Str.ofString "split") _) _ _ _); first | (with_reducible (refine method_split ?_)) | (refine method_split ?_)) | ((with_reducible show wpAny _ _ (truthy _) _ _ _); first | (with_reducible (k_dflt (refine' truthy_matN ?k1 ?k2 ?_; (case k1 => k_asm); (case k2 => k_mem)))) | (k_dflt (refine' truthy_matN ?k1 ?k2 ?_; (case k1 => k_asm); (case k2 => k_mem)))) | ((with_reducible show wpAny _ _ (call (Value.type _) [Value.ref _]) _ _ _); first | (with_reducible (k_dflt (refine' kde_tupleOf ?k1 ?k2 ?k3 ?k4 ?k5 ?_; (case k1 => k_asm); (case k2 => k_asm); (case k3 => exact News.isList (by k_asm) (by k_mem)); (case k4 => exact words_fit (by assumption)); (case k5 => exact rfl)); intro D' h' F' N' l1)) | (k_dflt (refine' kde_tupleOf ?k1 ?k2 ?k3 ?k4 ?k5 ?_; (case k1 => k_asm); (case k2 => k_asm); (case k3 => exact News.isList (by k_asm) (by k_mem)); (case k4 => exact words_fit (by assumption)); (case k5 => exact rfl)); intro D' h' F' N' l1)) | (have hz9 : NoHalt := ⟨⟩; walk1; all_goals (try clear hz9))) | (k_unfold; (try dsimp only)) | (k_end; wrow_close) | walk1 | (dsimp only; walk1) | (leave1; walk_say "STEP leave1"; try dsimp only) | fail "no step"))
    (with_reducible rename News _ _ _ (_ :: _) => NN)
    refine hQ _ _ _ _ _ (Flow.ret _) rfl (by k_asm) (fun p hp => NN p (List.mem_cons.mpr (Or.inl (List.mem_singleton.mp hp)))) ⟨_, _, rfl, ?_, rfl⟩
  · rw [hc.1]; exact .nil
  · assumption
end
end
theorem off_T0 : True := by
  w_top off
  trivial
section
theorem runs_toks {M : Model} {Γ : PySem.Ctx} {p : Pos} {t : Sem Fin} {fs : List Frame} {s s' : Shared} {e : End} (r : Runs M Γ p t fs s e s') : s.toks ≤ s'.toks := by
  induction r with
  | done => exact Nat.le_refl _
  | raise => exact Nat.le_refl _
  | again _ _ ih => exact ih
  | rule _ ih => exact ih
  | «at» _ ih => exact ih
  | load _ _ ih => exact ih
  | update _ _ ih => exact ih
  | loadIfAlive _ ih => exact ih
  | point _ ih => exact ih
  | alloc _ ih => exact ih
  | fresh _ ih => exact Nat.le_trans (Nat.le_succ _) ih
  | ask _ ih => exact ih
  | choose _ _ ih => exact ih
  | os _ ih => exact ih
  | handled _ ih => exact ih
  | genState _ _ ih => exact ih
  | stack _ ih => exact ih
  | thread _ ih => exact ih
  | newGen _ ih => exact ih
  | call _ _ ih1 ih2 => exact Nat.le_trans ih1 ih2
  | callSusp _ ih => exact ih
  | yield => exact Nat.le_refl _
  | resumeFresh _ _ _ _ ih1 ih2 => exact Nat.le_trans ih1 ih2
  | resumeSuspended _ _ _ _ ih1 ih2 => exact Nat.le_trans ih1 ih2
  | resumeJustStarted _ _ _ ih => exact ih
  | resumeThrowFresh _ _ ih => exact ih
  | resumeRunning _ _ ih => exact ih
  | resumeFinished _ _ ih => exact ih
  | segRet _ _ ih1 ih2 => exact Nat.le_trans ih1 ih2
  | segGen _ _ ih1 ih2 => exact Nat.le_trans ih1 ih2
  | segSuspOut _ _ ih => exact ih
  | segSuspGen _ _ _ _ ih1 ih2 => exact Nat.le_trans ih1 ih2
theorem wpCode_toks {M : Model} {Γ : PySem.Ctx} {R : Result → Shared → Prop} {p : Pos} {s : Shared} (h : wpCode M Γ (fun r s' => s.toks ≤ s'.toks → R r s') p s) : wpCode M Γ R p s := by
  obtain ⟨r, s', hr, h⟩ := h
  exact ⟨r, s', hr, h (runs_toks hr)⟩
theorem codeAny_toks {M : Model} {A : Around} {c : Code} {R : Result → Shared → Prop} {s : Shared} (h : codeAny M A c (fun r s' => s.toks ≤ s'.toks → R r s') s) : codeAny M A c R s :=
  fun Γ p hc hb => wpCode_toks (h Γ p hc hb)
theorem wakes_toks {M : Model} {Γ : PySem.Ctx} {p : Pos} {g : Nat} {r : Resume} {s s' : Shared} {res : GenResult} (h : Wakes M Γ p g r s res s') : s.toks ≤ s'.toks := by
  unfold Wakes at h
  split at h
  · exact h.elim
  · split at h
    · obtain ⟨e₁, s₁, hr, _, _, rfl⟩ := h
      exact (runs_toks hr : (s.setGen g .running).toks ≤ s₁.toks)
    · rw [h.2]; exact Nat.le_refl _
    · rw [h.2]; exact Nat.le_refl _
  · obtain ⟨e₁, s₁, hr, _, _, rfl⟩ := h
    exact (runs_toks hr : (s.setGen g .running).toks ≤ s₁.toks)
  · rw [h.2]; exact Nat.le_refl _
  · rw [h.2]; exact Nat.le_refl _
theorem wp_toks {α : Type} {M : Model} {Γ : PySem.Ctx} (n : Nat) (t : Sem α) : ∀ {Q : α → Pos → Shared → Prop} {E : Value → Pos → Shared → Prop} {p : Pos} {s : Shared}, n ≤ s.toks → Sem.wp M Γ t (fun a p' s' => n ≤ s'.toks → Q a p' s') (fun e p' s' => n ≤ s'.toks → E e p' s') p s → Sem.wp M Γ t Q E p s := by
  induction t with
  | pure a => intro Q E p s hn h; simp only [Sem.wp] at h ⊢; exact h hn
  | raise e => intro Q E p s hn h; simp only [Sem.wp] at h ⊢; exact h hn
  | load a part k ih => intro Q E p s hn h; simp only [Sem.wp] at h ⊢; obtain ⟨o, e, h⟩ := h; exact ⟨o, e, ih _ hn h⟩
  | update a part f k ih => intro Q E p s hn h; simp only [Sem.wp] at h ⊢; exact ⟨h.1, ih _ (s := { s with heap := _ }) hn h.2⟩
  | alloc o k ih => intro Q E p s hn h; simp only [Sem.wp] at h ⊢; exact ih _ (s := { s with heap := _ }) hn h
  | fresh k ih => intro Q E p s hn h; simp only [Sem.wp] at h ⊢; exact ih _ (s := { s with toks := _ }) (Nat.le_succ_of_le hn) h
  | choose src m k ih => intro Q E p s hn h; simp only [Sem.wp] at h ⊢; exact ⟨h.1, ih _ (s := { s with drawn := _ }) hn h.2⟩
  | os q l k ih => intro Q E p s hn h; simp only [Sem.wp] at h ⊢; exact ih _ (s := { s with os := _ }) hn h
  | newGen c k ih => intro Q E p s hn h; simp only [Sem.wp] at h ⊢; exact ih _ (s := { s with gens := _ }) hn h
  | genState g k ih => intro Q E p s hn h; simp only [Sem.wp] at h ⊢; obtain ⟨st, e, h⟩ := h; exact ⟨st, e, ih _ hn h⟩
  | call c hh g l k ih =>
    intro Q E p s hn h
    simp only [Sem.wp] at h ⊢
    obtain ⟨r, s', hr, h⟩ := h
    exact ⟨r, s', hr, ih _ (Nat.le_trans hn (runs_toks hr)) h⟩
  | resume g r l k ih =>
    intro Q E p s hn h
    simp only [Sem.wp] at h ⊢
    obtain ⟨res, s', hr, h⟩ := h
    exact ⟨res, s', hr, ih _ (Nat.le_trans hn (wakes_toks hr)) h⟩
  | _ => (intro Q E p s hn h; simp only [Sem.wp] at h ⊢) <;> (rename_i ih; exact ih _ hn h)
theorem wpAny_toks {α : Type} {M : Model} {A : Around} {t : Sem α} {Q : α → Shared → Prop} {E : Value → Shared → Prop} {s : Shared} (h : wpAny M A t (fun a s' => s.toks ≤ s'.toks → Q a s') (fun e s' => s.toks ≤ s'.toks → E e s') s) : wpAny M A t Q E s :=
  fun Γ p hΓ => wp_toks s.toks t (Nat.le_refl _) (h Γ p hΓ)
theorem wpAny_toks' {α : Type} {M : Model} {A : Around} {t : Sem α} {Q : α → Shared → Prop} {E : Value → Shared → Prop} {s : Shared} (h : wpAny M A t (fun a s' => s.toks ≤ s'.toks → Q a s') E s) : wpAny M A t Q E s :=
  wpAny_toks (wpAny_mono h (fun _ _ x => x) fun _ _ x _ => x)
end
theorem off_T1 : True := by
  w_top off
  trivial
section
/-- a contract whose result may speak of the tokens -/
noncomputable def SpecK (w : World) (dd uu : Nat) (f : Addr) (vs : List Value) (kw : List (Str × Value)) (news : Led) (Ret : Heap → Nat → Value → Led → Prop) : Prop :=
  ∀ (loose : List Str) (mean : ExcName → Option Value) (mg mb : Str → Option Value) (dp un : Nat) (gd : Option (List Code)) (cn : Str) (cs : Scope) (a : Addr) (ccd : Value) (cl : List (Str × Addr)) (outer : List Env) (A₀ : Around) (base h₀ : Heap) (L : Addr) (m : Str → Option Value) (s : Shared) (R : Result → Shared → Prop),
    Below A₀ base outer h₀ → Fr h₀ L s.heap m → (hd.heap_1 w.params).In h₀ → News h₀ L s.heap news → Top view loose mean mg mb h₀ → cs.kind = .function →
    dp + dd < recursionLimit → un + uu < cLine →
    (∀ r h' tk' news', Fr h₀ L h' m → News h₀ L h' news' → Kept s.heap h' (L :: news.map (·.1)) → s.toks ≤ tk' → Ret s.heap tk' r news' → R (.ok (.ret r)) { s with heap := h', toks := tk' }) →
    codeAny (model Challenge.rw_wj0050_01.row.prog w) (ktrTop dp un gd cn cs L a ccd cl outer) (.call (.ref f) ⟨vs, kw⟩) R s
theorem Spec.toK {w : World} {dd uu : Nat} {f : Addr} {vs : List Value} {kw : List (Str × Value)} {news : Led} {Ret : Heap → Value → Led → Prop} (h : Spec w dd uu f vs kw news Ret) : SpecK w dd uu f vs kw news (fun H _ r n => Ret H r n) := by
  intro loose mean mg mb dp un gd cn cs a ccd cl outer A₀ base h₀ L m s R B F X N T hk hd hu hR
  exact codeAny_toks (h _ _ _ _ _ _ _ _ _ _ _ _ _ _ _ _ _ _ _ _ B F X N T hk hd hu fun r h' tk' news' F' N' K' R' hle => hR r h' tk' news' F' N' K' hle R')
theorem SpecK.use {w : World} {dd uu : Nat} {f : Addr} {vs : List Value} {kw : List (Str × Value)} {news : Led} {Ret : Heap → Nat → Value → Led → Prop} (h : SpecK w dd uu f vs kw news Ret)
    {loose : List Str} {mean : ExcName → Option Value} {mg mb : Str → Option Value} {dp un : Nat} {gd : Option (List Code)} {cn : Str} {cs : Scope} {a : Addr} {ccd : Value} {cl : List (Str × Addr)} {outer : List Env} {A₀ : Around} {base h₀ : Heap} {L : Addr} {m : Str → Option Value} {s : Shared} {Q E : Value → Shared → Prop} {led : Led} (rest : Led)
    (B : Below A₀ base outer h₀) (F : Fr h₀ L s.heap m) (X : (hd.heap_1 w.params).In h₀) (N : News h₀ L s.heap led) (T : Top view loose mean mg mb h₀) (hk : cs.kind = .function)
    (hd : dp + dd < recursionLimit) (hu : un + uu < cLine) (h1 : ∀ p ∈ news, p ∈ led) (h2 : ∀ p ∈ rest, p ∈ led) (h3 : ∀ p ∈ rest, p.1 ∉ news.map (·.1))
    (hR : ∀ r h' tk' news', Fr h₀ L h' m → News h₀ L h' (news' ++ rest) → Kept s.heap h' (L :: news.map (·.1)) → s.toks ≤ tk' → Ret s.heap tk' r news' → Q r { s with heap := h', toks := tk' }) :
    wpAny (model Challenge.rw_wj0050_01.row.prog w) (ktrTop dp un gd cn cs L a ccd cl outer) (call (.ref f) vs kw) Q E s :=
  wpAny_call (h _ _ _ _ _ _ _ _ _ _ _ _ _ _ _ _ _ _ _ _ B F X (fun p hp => N p (h1 p hp)) T hk hd hu fun r h' tk' news' F' N' K' hle R' => hR r h' tk' news' F' (fun p hp => by
    rcases List.mem_append.mp hp with hp | hp
    · exact N' p hp
    · have q := N p (h2 p hp)
      refine ⟨K' _ _ q.1 fun e => ?_, q.2⟩
      rcases List.mem_cons.mp e with e | e
      · exact q.2.1 e
      · exact h3 p hp e) K' hle R')
/-- the callee is entered: its tokens are told -/
theorem SpecK.enter {w : World} {dd uu : Nat} {f : Addr} {vs : List Value} {kw : List (Str × Value)} {news : Led} {Ret : Heap → Nat → Value → Led → Prop} {name qual : Str} {params : Arguments} {body : List Stmt} {scope : Scope} {dV kV doc pm cdv ct oc : Value} {an od : Option Addr} {osl : Array (Option Value)} {binds : List (Str × Value)}
    (ho : (hd.heap_1 w.params).lookup f = some ⟨oc, od, .func (fnOf name qual params body scope dV kV doc pm an cdv ct), osl⟩) (hcd : codeIn (hd.heap_1 w.params) cdv qual = true)
    (hbind : ∀ s, (hd.heap_1 w.params).In s.heap → BindsTo s (fnOf name qual params body scope dV kV doc pm an cdv ct) ⟨vs, kw⟩ binds) (hloc : ∀ y ∈ binds, scope.names.lookup y.1 = some .local)
    (hco : scope.isCoroutine = false) (hgen : scope.isGenerator = false) (hk : scope.kind = .function) (hcell : ∀ x ∈ scope.names, x.2 ≠ .cell) (hdd : 0 < dd) (hb : 0 < binds.length)
    (h : ∀ (loose : List Str) (mean : ExcName → Option Value) (mg mb : Str → Option Value) (dp un : Nat) (gd : Option (List Code)) (outer : List Env) (A₀ : Around) (base g : Heap) (L : Addr) (h₁ : Heap) (s : Shared) (Q : Flow → Shared → Prop) (tk : Nat),
      Below A₀ base outer g → Fr g L h₁ (fun y => binds.reverse.lookup y) → (hd.heap_1 w.params).In g → News g L h₁ news → Top view loose mean mg mb g → dp + dd < recursionLimit + 1 → un + uu < cLine + 3 → s.toks < tk →
      (∀ b o, s.heap.get? b = some o → b ∉ news.map (·.1) → g.get? b = some o) →
      (∀ r h' tk' m' news' fl, (match fl with | Flow.ret v => v | _ => .none) = r → Fr g L h' m' → News g L h' news' → (tk ≤ tk' → Ret s.heap tk' r news') → Q fl { s with heap := h', toks := tk' }) →
      wpAny (model Challenge.rw_wj0050_01.row.prog w) (ktrTop dp un gd qual scope L f cdv [] outer) (execs body (envOf qual scope L f cdv)) Q (fun _ _ => False) { s with heap := h₁, toks := tk }) : SpecK w dd uu f vs kw news Ret := by
  unfold SpecK
  intro loose mean mg mb dp un gd cn cs a ccd cl outer A₀ base h₀ L m s R B F X N T hk' hd' hu hR
  refine code_defG B F X N T rfl rfl hk' ho hcd (by show dp < _; omega) (hbind s (X.keeps F.keep)) hloc (fun g L' h₁ FG F' N' B' X' T' G' => ?_) hco hgen hk hcell
  refine wpAny_toks' ?_
  refine wpAny_noRaise (h loose mean mg mb (dp + 1) (un + 3) gd _ _ base g L' h₁ s _ _ B' F' X' N' T' (by omega) (by omega) (by omega) G' fun r h' tk' m' news' fl e F₁ N₁ R₁ hle => ?_)
  refine ⟨L', m', news', F₁, N₁, fun F₂ N₂ => ?_⟩
  subst e
  exact hR _ h' tk' news' F₂ N₂ (fun b o e n => F₁.keep b o (G' b o e fun q => n (List.mem_cons_of_mem _ q))) (by have : s.toks + binds.length ≤ tk' := hle; omega) (R₁ hle)
end
theorem off_T2 : True := by
  w_top off
  trivial
section
inductive An4 (a1 a2 a3 a4 : Prop) : Prop
  | mk (h1 : a1) (h2 : a2) (h3 : a3) (h4 : a4) : An4 a1 a2 a3 a4
inductive An5 (a1 a2 a3 a4 a5 : Prop) : Prop
  | mk (h1 : a1) (h2 : a2) (h3 : a3) (h4 : a4) (h5 : a5) : An5 a1 a2 a3 a4 a5
inductive An8 (a1 a2 a3 a4 a5 a6 a7 a8 : Prop) : Prop
  | mk (h1 : a1) (h2 : a2) (h3 : a3) (h4 : a4) (h5 : a5) (h6 : a6) (h7 : a7) (h8 : a8) : An8 a1 a2 a3 a4 a5 a6 a7 a8
inductive An9 (a1 a2 a3 a4 a5 a6 a7 a8 a9 : Prop) : Prop
  | mk (h1 : a1) (h2 : a2) (h3 : a3) (h4 : a4) (h5 : a5) (h6 : a6) (h7 : a7) (h8 : a8) (h9 : a9) : An9 a1 a2 a3 a4 a5 a6 a7 a8 a9
inductive An10 (a1 a2 a3 a4 a5 a6 a7 a8 a9 a10 : Prop) : Prop
  | mk (h1 : a1) (h2 : a2) (h3 : a3) (h4 : a4) (h5 : a5) (h6 : a6) (h7 : a7) (h8 : a8) (h9 : a9) (h10 : a10) : An10 a1 a2 a3 a4 a5 a6 a7 a8 a9 a10
inductive An11 (a1 a2 a3 a4 a5 a6 a7 a8 a9 a10 a11 : Prop) : Prop
  | mk (h1 : a1) (h2 : a2) (h3 : a3) (h4 : a4) (h5 : a5) (h6 : a6) (h7 : a7) (h8 : a8) (h9 : a9) (h10 : a10) (h11 : a11) : An11 a1 a2 a3 a4 a5 a6 a7 a8 a9 a10 a11
inductive Ex2 {α1 α2 : Type} (P : α1 → α2 → Prop) : Prop
  | mk (x1 : α1) (x2 : α2) (h : P x1 x2) : Ex2 P
inductive Ex4 {α1 α2 α3 α4 : Type} (P : α1 → α2 → α3 → α4 → Prop) : Prop
  | mk (x1 : α1) (x2 : α2) (x3 : α3) (x4 : α4) (h : P x1 x2 x3 x4) : Ex4 P
inductive Ex5 {α1 α2 α3 α4 α5 : Type} (P : α1 → α2 → α3 → α4 → α5 → Prop) : Prop
  | mk (x1 : α1) (x2 : α2) (x3 : α3) (x4 : α4) (x5 : α5) (h : P x1 x2 x3 x4 x5) : Ex5 P
inductive Ex6 {α1 α2 α3 α4 α5 α6 : Type} (P : α1 → α2 → α3 → α4 → α5 → α6 → Prop) : Prop
  | mk (x1 : α1) (x2 : α2) (x3 : α3) (x4 : α4) (x5 : α5) (x6 : α6) (h : P x1 x2 x3 x4 x5 x6) : Ex6 P
inductive Ex7 {α1 α2 α3 α4 α5 α6 α7 : Type} (P : α1 → α2 → α3 → α4 → α5 → α6 → α7 → Prop) : Prop
  | mk (x1 : α1) (x2 : α2) (x3 : α3) (x4 : α4) (x5 : α5) (x6 : α6) (x7 : α7) (h : P x1 x2 x3 x4 x5 x6 x7) : Ex7 P
inductive Ex8 {α1 α2 α3 α4 α5 α6 α7 α8 : Type} (P : α1 → α2 → α3 → α4 → α5 → α6 → α7 → α8 → Prop) : Prop
  | mk (x1 : α1) (x2 : α2) (x3 : α3) (x4 : α4) (x5 : α5) (x6 : α6) (x7 : α7) (x8 : α8) (h : P x1 x2 x3 x4 x5 x6 x7 x8) : Ex8 P
/-- the end of a turn -/
noncomputable def TurnEnd (h₀ : Heap) (L : Addr) (s : Shared) (led : Led) (J : (Str → Option Value) → Nat → Prop) (tk : Nat) (f : Flow) (s' : Shared) : Prop :=
  f = .next ∧ ∃ h' tk' m', s' = { s with heap := h', toks := tk' } ∧ Fr h₀ L h' m' ∧ News h₀ L h' led ∧ (tk ≤ tk' → J m' tk')
theorem TurnEnd.intro {h₀ : Heap} {L : Addr} {s : Shared} {led : Led} {J : (Str → Option Value) → Nat → Prop} {tk : Nat} {h' : Heap} {tk' : Nat} {m' : Str → Option Value} (F : Fr h₀ L h' m') (N : News h₀ L h' led) (h : tk ≤ tk' → J m' tk') : TurnEnd h₀ L s led J tk .next { s with heap := h', toks := tk' } := ⟨rfl, h', tk', m', rfl, F, N, h⟩
section
variable {prog : Program} {w : World} {A : Around} {s : Shared} {env : Env} {h₀ : Heap}
/-- a for loop that keeps its ledger, the tokens told -/
theorem forLoop_T {R : Result → Shared → Prop} {x : Str} {px : Pos} {body : List Stmt} {I : Addr} {n : Nat} {P : Nat → Value → Nat → Prop} {St : Nat → Heap → Prop} {m : Str → Option Value} {news : Led} (src : List Addr)
    (next : ∀ i (s : Shared) (Q : Option Value → Shared → Prop) (E : Value → Shared → Prop), i < n → St i s.heap → (∀ v h' tk, P i v s.toks → s.toks ≤ tk → St (i + 1) h' → (∀ b o, b ≠ I → s.heap.get? b = some o → h'.get? b = some o) → Q (some v) { s with heap := h', toks := tk }) → wpAny (model prog w) A (pyNext (.ref I)) Q E s)
    (done : ∀ (s : Shared) (Q : Option Value → Shared → Prop) (E : Value → Shared → Prop), St n s.heap → (∀ h' tk, s.toks ≤ tk → (∀ b o, b ≠ I → s.heap.get? b = some o → h'.get? b = some o) → Q none { s with heap := h', toks := tk }) → wpAny (model prog w) A (pyNext (.ref I)) Q E s)
    (frame : ∀ i h h', St i h → (∀ b ∈ I :: src, ∀ o, h.get? b = some o → h'.get? b = some o) → St i h')
    (hIo : ∀ i h, St i h → ∃ o, h.get? I = some o)
    (hx : env.kindOf x = some .local) (hp : (env.scope.kind == .class || (env.scope.kind == .module && env.locals != env.globals)) = false)
    (hIL : env.locals ≠ I) (hI₀ : h₀.get? I = none) (hsrc : ∀ b ∈ src, ∃ o, (b, o) ∈ news) (off : ∀ p ∈ news, p.1 ≠ I)
    (hst : St 0 s.heap) (F : Fr h₀ env.locals s.heap m) (N : News h₀ env.locals s.heap news)
    (J : Nat → (Str → Option Value) → Nat → Prop) (h0 : J 0 m s.toks) (Jmono : ∀ i m a b, a ≤ b → J i m a → J i m b)
    (step : ∀ i v m₁ h tk T oI E', i < n → P i v T → T ≤ tk → J i m₁ T → s.toks ≤ T → Fr h₀ env.locals h (fun y => if y = x then some v else m₁ y) → News h₀ env.locals h ((I, oI) :: news) →
      wpAny (model prog w) A (execs body env) (TurnEnd h₀ env.locals s ((I, oI) :: news) (J (i + 1)) tk) E' { s with heap := h, toks := tk })
    (hR : ∀ h' tk m', Fr h₀ env.locals h' m' → News h₀ env.locals h' news → J n m' tk → s.toks ≤ tk → R (.ok .next) { s with heap := h', toks := tk }) :
    codeAny (model prog w) A (.forLoop (.Name x px) (.ref I) body [] env) R s := by
  refine codeAny_forLoop (fun k s' => Ex4 fun h' tk m' i => An8 (s' = { s with heap := h', toks := tk }) (s.toks ≤ tk) (St i h') (Fr h₀ env.locals h' m') (News h₀ env.locals h' news) (J i m' tk) (i ≤ n) (k = n + 1 - i)) ?_ (n + 1)
    ⟨s.heap, s.toks, m, 0, rfl, Nat.le_refl _, hst, F, N, h0, Nat.zero_le _, rfl⟩
  rintro k s' ⟨h', tk, m', i, rfl, hle, hst', F', N', hJ, hi, rfl⟩
  have keepF : ∀ h₁ : Heap, (∀ b o, b ≠ I → h'.get? b = some o → h₁.get? b = some o) → Fr h₀ env.locals h₁ m' ∧ News h₀ env.locals h₁ news := fun h₁ hk₁ =>
    ⟨⟨F'.ns.at' fun o e => hk₁ _ o hIL e, fun b o e => hk₁ b o (fun q => by rw [q, hI₀] at e; cases e) (F'.keep b o e), F'.above⟩, fun p hp => ⟨hk₁ _ _ (off p hp) (N' p hp).1, (N' p hp).2⟩⟩
  by_cases hlt : i < n
  · refine next i _ _ _ hlt hst' fun v h₁ tk₁ hP hle₁ hst₁ hk₁ => ?_
    obtain ⟨F₁, N₁⟩ := keepF h₁ hk₁
    obtain ⟨oI, hoI⟩ := hIo _ _ hst₁
    refine wpAny_assign_Name (wpAny_storeName_local hx F₁.ns (fun h₂ hn₂ hs₂ => ?_) hp)
    have F₂ := F₁.set hn₂ hs₂
    have hI₂ : h₂.get? I = some oI := (hs₂.2 I (Ne.symm hIL)).trans hoI
    have N₂ : News h₀ env.locals h₂ ((I, oI) :: news) := fun p hp => by
      refine mem_elim hp ?_ fun hp => ?_
      · exact ⟨hI₂, Ne.symm hIL, hI₀⟩
      · exact N₁.set hs₂ p hp
    have hst₂ : St (i + 1) h₂ := frame _ _ _ hst₁ fun b hb o e => by
      rcases List.mem_cons.mp hb with rfl | hb
      · rw [hoI] at e; cases e; exact hI₂
      · obtain ⟨o', ho'⟩ := hsrc b hb
        exact (hs₂.2 b (N₁ _ ho').2.1).trans e
    refine wpAny_toks' (wpAny_mono (step i v m' h₂ _ tk oI _ hlt hP (Nat.le_trans hle₁ (Nat.le_succ _)) hJ hle F₂ N₂) (fun f s₃ h₃ => ?_) fun _ _ e => e)
    obtain ⟨rfl, h₃', tk₃, m₂, rfl, F₃, N₃, hJ₃⟩ := h₃
    intro hle₃
    have hle₃' : tk₁ + 1 ≤ tk₃ := hle₃
    have hle₁' : tk ≤ tk₁ := hle₁
    refine ⟨n + 1 - (i + 1), subL (by assumption), h₃', tk₃, m₂, i + 1, rfl, by omega, ?_, F₃, fun p hp => N₃ p (List.mem_cons_of_mem _ hp), hJ₃ hle₃', hlt, rfl⟩
    refine frame _ _ _ hst₂ fun b hb o e => ?_
    rcases List.mem_cons.mp hb with rfl | hb
    · rw [hI₂] at e; cases e; exact (N₃ _ List.mem_cons_self).1
    · obtain ⟨o', ho'⟩ := hsrc b hb
      have e' := (N₂ _ (List.mem_cons_of_mem _ ho')).1
      rw [e'] at e; cases e
      exact (N₃ _ (List.mem_cons_of_mem _ ho')).1
  · have hin : i = n := by omega
    subst hin
    refine done _ _ _ hst' fun h₁ tk₁ hle₁ hk₁ => wpAny_execs_nil ?_
    obtain ⟨F₁, N₁⟩ := keepF h₁ hk₁
    have hle₁' : tk ≤ tk₁ := hle₁
    exact hR h₁ tk₁ m' F₁ N₁ (Jmono _ _ _ _ hle₁' hJ) (by omega)
end
end
theorem off_T3 : True := by
  w_top off
  trivial
section
theorem is_int {M : Model} {A : Around} {E : Value → Shared → Prop} {s : Shared} {Q : Value → Shared → Prop} {p q : Int} {t u : Tok} (ht : t ≠ 0) (hu : u ≠ 0) (hs : smallInt p = true) (hd : p ≠ q → t ≠ u) (h : Q (.bool (p == q)) s) : wpAny M A (compareOp .Is (.int p t) (.int q u)) Q E s := by
  have h0 : (t == 0 || u == 0) = false := by simp [ht, hu]
  refine wpAny_bind (m := isSame (.int p t) (.int q u)) ?_
  show wpAny M A (if (p == q && smallInt p) = true then isSame.cachedInt t u else isSame.created (p == q) t u) _ E s
  by_cases hpq : p = q
  · subst hpq
    refine bm_if_true (by simp [hs]) ?_
    unfold isSame.cachedInt
    refine bm_if_false h0 (wpAny_bind (wpAny_rule (wpAny_pure (wpAny_pure ?_))))
    simpa using h
  · have hb : (p == q) = false := by simpa using hpq
    rw [hb] at h ⊢
    refine bm_if_false rfl ?_
    unfold isSame.created
    refine bm_if_false h0 ?_
    refine bm_if_false (by simpa using hd hpq) ?_
    refine bm_if_true rfl ?_
    exact wpAny_pure (wpAny_pure h)
/-- v against b: is and == say the same -/
structure CmpOk (w : World) (v b : Value) (c : Bool) : Prop where
  is_ : ∀ {A : Around} {E : Value → Shared → Prop} {s : Shared} {Q : Value → Shared → Prop}, Q (.bool c) s → wpAny (model Challenge.rw_wj0050_01.row.prog w) A (compareOp .Is v b) Q E s
  eq_ : ∀ {A : Around} {E : Value → Shared → Prop} {s : Shared} {Q : Value → Shared → Prop}, Q (.bool c) s → wpAny (model Challenge.rw_wj0050_01.row.prog w) A (compareOp .Eq v b) Q E s
theorem CmpOk.int {w : World} {p q : Int} {t u : Tok} (ht : t ≠ 0) (hu : u ≠ 0) (hs : smallInt p = true) (hd : p ≠ q → t ≠ u) : CmpOk w (.int p t) (.int q u) (p == q) :=
  ⟨fun h => is_int ht hu hs hd h, fun h => eq_int h⟩
theorem CmpOk.bool {w : World} {a b : Bool} : CmpOk w (.bool a) (.bool b) (a == b) := by
  refine ⟨fun h => ?_, fun h => eq_bool h⟩
  cases a <;> cases b
  · exact wpAny_is_self rfl h
  · exact wpAny_is_other rfl (by intro x; cases x) h
  · exact wpAny_is_other rfl (by intro x; cases x) h
  · exact wpAny_is_self rfl h
end
theorem off_T4 : True := by
  w_top off
  trivial
section
section
variable {prog : Program} {w : World} {A : Around} {s : Shared} {env : Env} {h₀ : Heap}
theorem forList_T {R : Result → Shared → Prop} {E : Value → Shared → Prop} {x : Str} {px : Pos} {body : List Stmt} {m : Str → Option Value} {a : Addr} {its : Array Value} {k : Nat} {news : Led} (hh : A.handled = none)
    (F : Fr h₀ env.locals s.heap m) (N : News h₀ env.locals s.heap news) (hm : (a, listOf its k) ∈ news)
    (hx : env.kindOf x = some .local) (hp : (env.scope.kind == .class || (env.scope.kind == .module && env.locals != env.globals)) = false)
    (J : Nat → (Str → Option Value) → Nat → Prop) (h0 : J 0 m s.toks) (Jmono : ∀ i m a b, a ≤ b → J i m a → J i m b)
    (step : ∀ i v m₁ h tk T I oI E', i < its.size → its[i]? = some v → T ≤ tk → J i m₁ T → s.toks ≤ T → (∀ p ∈ news, p.1 < I) → Fr h₀ env.locals h (fun y => if y = x then some v else m₁ y) → News h₀ env.locals h ((I, oI) :: news) →
      wpAny (model prog w) A (execs body env) (TurnEnd h₀ env.locals s ((I, oI) :: news) (J (i + 1)) tk) E' { s with heap := h, toks := tk })
    (hR : ∀ h' tk m', Fr h₀ env.locals h' m' → News h₀ env.locals h' news → J its.size m' tk → s.toks ≤ tk → R (.ok .next) { s with heap := h', toks := tk }) :
    wpAny (model prog w) A (pyIter (.ref a)) (fun it s₂ => codeAny (model prog w) A (.forLoop (.Name x px) it body [] env) R s₂) E s := by
  have hl : s.heap.IsList a its := N.isList hm
  refine wpAny_pyIter_list hl ?_
  have hsz : ∀ p ∈ news, p.1 < s.heap.objs.size := fun p hp => Heap.lt_size (N p hp).1
  have hne : a ≠ s.heap.objs.size := Nat.ne_of_lt (hsz _ hm)
  have W := Walks.list (prog := prog) (w := w) (A := A) hh s.heap.objs.size a hne its
  exact forLoop_T (news := news) (n := its.size) (P := fun i v _ => its[i]? = some v) (St := fun i h => h.IsListIter s.heap.objs.size a i ∧ h.IsList a its) [a]
    (fun i s Q E hi st h => wpAny_toks' (W.item i s _ _ hi st fun v h' tk hP st' hk hle => h v h' tk hP hle st' fun b o hb e => hk b o (by simpa using hb) e))
    (fun s Q E st h => wpAny_toks' (W.done s _ _ st fun h' tk hk hle => h h' tk hle fun b o hb e => hk b o (by simpa using hb) e))
    (fun i h h' st hk => ⟨st.1.at fun o e => hk _ (by simp) o e, st.2.at fun o e => hk a (by simp) o e⟩)
    (fun i h st => by obtain ⟨o, e, _⟩ := st.1; exact ⟨o, e⟩) hx hp (Nat.ne_of_lt F.ns.lt) (next_is_new F)
    (fun b hb => by rw [List.mem_singleton.mp hb]; exact ⟨_, hm⟩) (fun p hp => Nat.ne_of_lt (hsz p hp)) ⟨⟨_, Heap.get?_push_size _ rfl, rfl, rfl⟩, hl.push _⟩ (F.push _) (fun p hp => ⟨Heap.get?_push_of_some _ (N p hp).1, (N p hp).2⟩)
    J h0 Jmono (fun i v m₁ h tk T oI E' hi hv hT hJ hs F' N' => step i v m₁ h tk T _ oI E' hi hv hT hJ hs hsz F' N') hR
theorem forBytes_T {R : Result → Shared → Prop} {E : Value → Shared → Prop} {x : Str} {px : Pos} {body : List Stmt} {m : Str → Option Value} {b : Array UInt8} {tb : Tok} {news : Led} (hh : A.handled = none)
    (F : Fr h₀ env.locals s.heap m) (N : News h₀ env.locals s.heap news)
    (hx : env.kindOf x = some .local) (hp : (env.scope.kind == .class || (env.scope.kind == .module && env.locals != env.globals)) = false)
    (J : Nat → (Str → Option Value) → Nat → Prop) (h0 : J 0 m s.toks) (Jmono : ∀ i m a b, a ≤ b → J i m a → J i m b)
    (step : ∀ i c m₁ h tk T I oI E', i < b.size → b[i]? = some c → T ≤ tk → J i m₁ T → s.toks ≤ T → (∀ p ∈ news, p.1 < I) → Fr h₀ env.locals h (fun y => if y = x then some (.int (c.toNat : Int) T) else m₁ y) → News h₀ env.locals h ((I, oI) :: news) →
      wpAny (model prog w) A (execs body env) (TurnEnd h₀ env.locals s ((I, oI) :: news) (J (i + 1)) tk) E' { s with heap := h, toks := tk })
    (hR : ∀ h' tk m', Fr h₀ env.locals h' m' → News h₀ env.locals h' news → J b.size m' tk → s.toks ≤ tk → R (.ok .next) { s with heap := h', toks := tk }) :
    wpAny (model prog w) A (pyIter (.bytes b tb)) (fun it s₂ => codeAny (model prog w) A (.forLoop (.Name x px) it body [] env) R s₂) E s := by
  refine KBw.pyIter_bytes ?_
  have hsz : ∀ p ∈ news, p.1 < s.heap.objs.size := fun p hp => Heap.lt_size (N p hp).1
  exact forLoop_T (news := news) (n := b.size) (P := fun i v T => ∃ c, b[i]? = some c ∧ v = .int (c.toNat : Int) T) (St := fun i h => KBw.IsBytesIter h s.heap.objs.size b tb i) []
    (fun i s Q E hi st h => KBw.next_item st (c := b[i]) (by simp [hi]) fun h' hit' hs' => h _ h' _ ⟨_, by simp [hi], rfl⟩ (Nat.le_succ _) hit' fun b' o hb e => hs'.extBut b' o hb e)
    (fun s Q E st h => KBw.next_end hh st (by simp) fun h' he' => h h' s.toks (Nat.le_refl _) fun b' o hb e => he' b' o hb e)
    (fun i h h' st hk => let ⟨o, ho, r⟩ := st; ⟨o, hk _ (by simp) o ho, r⟩)
    (fun i h st => by obtain ⟨o, e, _⟩ := st; exact ⟨o, e⟩) hx hp (Nat.ne_of_lt F.ns.lt) (next_is_new F)
    (fun b hb => nomatch hb) (fun p hp => Nat.ne_of_lt (hsz p hp)) ⟨_, Heap.get?_push_size _ rfl, rfl, rfl⟩ (F.push _) (fun p hp => ⟨Heap.get?_push_of_some _ (N p hp).1, (N p hp).2⟩)
    J h0 Jmono (fun i v m₁ h tk T oI E' hi hv hT hJ hs F' N' => by
      obtain ⟨c, hc, rfl⟩ := hv
      exact step i c m₁ h tk T _ oI E' hi hc hT hJ hs hsz F' N') hR
end
end
theorem off_W13 : True := by
  w_top off
  trivial
section
section
local macro_rules | `(tactic| walk_at "exec For Name Name cons nil") => `(tactic| (k_here; refine halt ?_))
local macro_rules | `(tactic| walk_at "compareOp Is") => `(tactic| walk_at "H")
local macro_rules | `(tactic| walk_at "compareOp Eq") => `(tactic| walk_at "H")
local macro_rules | `(tactic| walk_at "eval Name") => `(tactic| (k_here; (with_reducible rename InTurn => hIT); k_dflt (refine' ld ?k1 ?k2 ?_; (case k1 => k_asm); (case k2 => first | exact rfl | assumption); k_whole)))
local macro_rules | `(tactic| walk_at "loadName") => `(tactic| (k_here; (with_reducible rename InTurn => hIT); k_dflt (refine' ldn ?k1 ?k2 ?_; (case k1 => k_asm); (case k2 => first | exact rfl | assumption); k_whole)))
theorem count_list_spec (w : World) (a : Nat) (its : Array Value) (n : Nat) (bv : Value) (c : Nat → Bool) (hz : its.size ≤ 1000) (hc : ∀ i v, its[i]? = some v → CmpOk w v bv (c i)) : SpecK w 8 64 78 [.ref a, bv] [] [(a, listOf its n)] (fun _ tk r n' => (∃ tc, r = .int (((List.range its.size).countP c : Nat) : Int) tc ∧ 0 < tc ∧ tc < tk) ∧ n' = [(a, listOf its n)]) := by
  (refine' SpecK.enter ?ho ?hcd ?hbind ?hloc ?c2 ?c3 ?c4 ?c5 ?hdd ?hbb ?_); (case ho => k_is); (case hcd => k_is); (case hbind => exact (fun _ _ => BindsTo.of_eq rfl)); (case hloc => exact locs rfl); (case c2 => exact rfl); (case c3 => exact rfl); (case c4 => exact rfl); (case c5 => decide); (case hdd => decide); (case hbb => exact Nat.le_of_ble_eq_true rfl)
  intro loose mean mg mb dp un gd outer A₀ base g L h₁ s Q tk hB hF hX hN hT hd hu htk hG hQ
  (try dsimp only); (try k_fold)
  (repeat' (first | (unfold Hold; first | ((with_reducible show wpAny _ _ (compareOp _ _ _) _ _ _); first | (with_reducible ((with_reducible rename CmpOk _ _ _ _ => hCm); (refine CmpOk.eq_ hCm ?_))) | ((with_reducible rename CmpOk _ _ _ _ => hCm); (refine CmpOk.eq_ hCm ?_))) | ((with_reducible show wpAny _ _ (compareOp _ _ _) _ _ _); first | (with_reducible ((with_reducible rename CmpOk _ _ _ _ => hCm); (refine CmpOk.is_ hCm ?_))) | ((with_reducible rename CmpOk _ _ _ _ => hCm); (refine CmpOk.is_ hCm ?_))) | (have hz9 : NoHalt := ⟨⟩; walk1; all_goals (try clear hz9))) | (k_unfold; (try dsimp only)) | (k_end; wrow_close) | walk1 | (dsimp only; walk1) | (leave1; walk_say "STEP leave1"; try dsimp only) | fail "no step"))
  unfold Halt
  (with_reducible rename Fr _ _ _ _ => FF)
  (with_reducible rename News _ _ _ _ => NN)
  refine wpAny_For ?_
  walk1
  refine forList_T (its := its) (k := n) rfl FF NN (.head _) rfl rfl (fun i m tk => (∃ tc, m (Str.ofString "count") = some (.int (((List.range i).countP c : Nat) : Int) tc) ∧ 0 < tc ∧ tc < tk) ∧ m (Str.ofString "b") = some bv) ?h0 ?Jmono ?step ?hR
  case h0 => exact ⟨⟨tk, rfl, Nat.lt_of_le_of_lt (Nat.zero_le _) htk, Nat.lt_succ_of_lt (Nat.lt_succ_self _)⟩, rfl⟩
  case Jmono => exact fun i m x y hxy ⟨⟨tc, e, h1, h2⟩, h3⟩ => ⟨⟨tc, e, h1, Nat.lt_of_lt_of_le h2 hxy⟩, h3⟩
  case step =>
    intro i v m₁ h tk1 T I oI E' hi hv hT1 hJ hsT hII F1 N1
    obtain ⟨⟨tc, e1, htc, htc2⟩, e2⟩ := hJ
    have hcount : (List.range (i + 1)).countP c = (List.range i).countP c + if c i = true then 1 else 0 := by
      rw [List.range_succ, List.countP_append]; simp [List.countP_cons]
    have hbnd : (List.range i).countP c ≤ 1000 := Nat.le_trans (List.countP_le_length) (by simp; omega)
    have hCm := hc i v hv
    have hIT : InTurn := ⟨⟩
    cases hci : c i
    all_goals
      rw [hci] at hCm hcount
      (repeat' (first | (unfold Hold; first | ((with_reducible show wpAny _ _ (compareOp _ _ _) _ _ _); first | (with_reducible ((with_reducible rename CmpOk _ _ _ _ => hCm); (refine CmpOk.eq_ hCm ?_))) | ((with_reducible rename CmpOk _ _ _ _ => hCm); (refine CmpOk.eq_ hCm ?_))) | ((with_reducible show wpAny _ _ (compareOp _ _ _) _ _ _); first | (with_reducible ((with_reducible rename CmpOk _ _ _ _ => hCm); (refine CmpOk.is_ hCm ?_))) | ((with_reducible rename CmpOk _ _ _ _ => hCm); (refine CmpOk.is_ hCm ?_))) | (have hz9 : NoHalt := ⟨⟩; walk1; all_goals (try clear hz9))) | (k_unfold; (try dsimp only)) | (k_end; wrow_close) | walk1 | (dsimp only; walk1) | (leave1; walk_say "STEP leave1"; try dsimp only) | fail "no step"))
    · refine TurnEnd.intro (by k_asm) (by k_asm) (fun hle => ?_)
      refine ⟨⟨tc, ?_, htc, Nat.lt_of_lt_of_le htc2 (Nat.le_trans hT1 hle)⟩, e2⟩
      rw [hcount]; exact e1
    · refine TurnEnd.intro (by k_asm) (by k_asm) (fun hle => ?_)
      refine ⟨⟨_, congrArg (fun z => some (Value.int z _)) ?_, Nat.succ_pos _, Nat.lt_succ_of_lt (Nat.lt_succ_self _)⟩, e2⟩
      rw [hcount]; simp
  case hR =>
    intro h' tk2 m' F' N' hJ hle
    obtain ⟨⟨tc, e1, htc, htc2⟩, e2⟩ := hJ
    have hIT : InTurn := ⟨⟩
    dsimp only
    (repeat' (first | (unfold Hold; first | ((with_reducible show wpAny _ _ (compareOp _ _ _) _ _ _); first | (with_reducible ((with_reducible rename CmpOk _ _ _ _ => hCm); (refine CmpOk.eq_ hCm ?_))) | ((with_reducible rename CmpOk _ _ _ _ => hCm); (refine CmpOk.eq_ hCm ?_))) | ((with_reducible show wpAny _ _ (compareOp _ _ _) _ _ _); first | (with_reducible ((with_reducible rename CmpOk _ _ _ _ => hCm); (refine CmpOk.is_ hCm ?_))) | ((with_reducible rename CmpOk _ _ _ _ => hCm); (refine CmpOk.is_ hCm ?_))) | (have hz9 : NoHalt := ⟨⟩; walk1; all_goals (try clear hz9))) | (k_unfold; (try dsimp only)) | (k_end; wrow_close) | walk1 | (dsimp only; walk1) | (leave1; walk_say "STEP leave1"; try dsimp only) | fail "no step"))
    exact hQ _ _ _ _ _ (Flow.ret _) rfl (by k_asm) (by k_asm) (fun hle => ⟨⟨tc, rfl, htc, htc2⟩, rfl⟩)
theorem dots_at {d i : Nat} {c : UInt8} (h : (BB (dotsN d))[i]? = some c) : (c.toNat : Int) = 46 := by
  have : c = Nat.toUInt8 46 := by
    simp only [BB, dotsN, List.map_replicate, List.getElem?_toArray, List.getElem?_replicate] at h
    split at h
    · exact (Option.some.inj h).symm
    · cases h
  rw [this]; rfl
theorem count_dots_spec (w : World) (d : Nat) (t u : Tok) (hd : d ≤ 1000) (hu : u ≠ 0) : SpecK w 8 64 78 [.bytes (BB (dotsN d)) t, .int 46 u] [] [] (fun _ tk r n' => (∃ tc, r = .int (d : Int) tc ∧ 0 < tc ∧ tc < tk) ∧ n' = []) := by
  (refine' SpecK.enter ?ho ?hcd ?hbind ?hloc ?c2 ?c3 ?c4 ?c5 ?hdd ?hbb ?_); (case ho => k_is); (case hcd => k_is); (case hbind => exact (fun _ _ => BindsTo.of_eq rfl)); (case hloc => exact locs rfl); (case c2 => exact rfl); (case c3 => exact rfl); (case c4 => exact rfl); (case c5 => decide); (case hdd => decide); (case hbb => exact Nat.le_of_ble_eq_true rfl)
  intro loose mean mg mb dp un gd outer A₀ base g L h₁ s Q tk hB hF hX hN hT hd hu' htk hG hQ
  (try dsimp only); (try k_fold)
  (repeat' (first | (unfold Hold; first | ((with_reducible show wpAny _ _ (compareOp _ _ _) _ _ _); first | (with_reducible ((with_reducible rename CmpOk _ _ _ _ => hCm); (refine CmpOk.eq_ hCm ?_))) | ((with_reducible rename CmpOk _ _ _ _ => hCm); (refine CmpOk.eq_ hCm ?_))) | ((with_reducible show wpAny _ _ (compareOp _ _ _) _ _ _); first | (with_reducible ((with_reducible rename CmpOk _ _ _ _ => hCm); (refine CmpOk.is_ hCm ?_))) | ((with_reducible rename CmpOk _ _ _ _ => hCm); (refine CmpOk.is_ hCm ?_))) | (have hz9 : NoHalt := ⟨⟩; walk1; all_goals (try clear hz9))) | (k_unfold; (try dsimp only)) | (k_end; wrow_close) | walk1 | (dsimp only; walk1) | (leave1; walk_say "STEP leave1"; try dsimp only) | fail "no step"))
  unfold Halt
  (with_reducible rename Fr _ _ _ _ => FF)
  (with_reducible rename News _ _ _ _ => NN)
  refine wpAny_For ?_
  walk1
  have hsz : (BB (dotsN d)).size = d := by rw [BB_size]; simp [dotsN]
  refine forBytes_T (b := BB (dotsN d)) rfl FF NN rfl rfl (fun i m tk => (∃ tc, m (Str.ofString "count") = some (.int (i : Int) tc) ∧ 0 < tc ∧ tc < tk) ∧ m (Str.ofString "b") = some (.int 46 u)) ?h0 ?Jmono ?step ?hR
  case h0 => exact ⟨⟨tk, rfl, Nat.lt_of_le_of_lt (Nat.zero_le _) htk, Nat.lt_succ_of_lt (Nat.lt_succ_self _)⟩, rfl⟩
  case Jmono => exact fun i m x y hxy ⟨⟨tc, e, h1, h2⟩, h3⟩ => ⟨⟨tc, e, h1, Nat.lt_of_lt_of_le h2 hxy⟩, h3⟩
  case step =>
    intro i c m₁ h tk1 T I oI E' hi hv hT1 hJ hsT hII F1 N1
    obtain ⟨⟨tc, e1, htc, htc2⟩, e2⟩ := hJ
    rw [dots_at hv] at F1
    have hi' : i ≤ 1000 := by rw [hsz] at hi; omega
    have hCm : CmpOk w (.int 46 T) (.int 46 u) true := CmpOk.int (p := 46) (q := 46) (Nat.ne_of_gt (Nat.lt_of_lt_of_le (Nat.lt_of_le_of_lt (Nat.zero_le _) (Nat.lt_succ_of_lt (Nat.lt_succ_self tk))) hsT)) hu (by decide) (fun x => absurd rfl x)
    have hIT : InTurn := ⟨⟩
    (repeat' (first | (unfold Hold; first | ((with_reducible show wpAny _ _ (compareOp _ _ _) _ _ _); first | (with_reducible ((with_reducible rename CmpOk _ _ _ _ => hCm); (refine CmpOk.eq_ hCm ?_))) | ((with_reducible rename CmpOk _ _ _ _ => hCm); (refine CmpOk.eq_ hCm ?_))) | ((with_reducible show wpAny _ _ (compareOp _ _ _) _ _ _); first | (with_reducible ((with_reducible rename CmpOk _ _ _ _ => hCm); (refine CmpOk.is_ hCm ?_))) | ((with_reducible rename CmpOk _ _ _ _ => hCm); (refine CmpOk.is_ hCm ?_))) | (have hz9 : NoHalt := ⟨⟩; walk1; all_goals (try clear hz9))) | (k_unfold; (try dsimp only)) | (k_end; wrow_close) | walk1 | (dsimp only; walk1) | (leave1; walk_say "STEP leave1"; try dsimp only) | fail "no step"))
    refine TurnEnd.intro (by k_asm) (by k_asm) (fun hle => ?_)
    exact ⟨⟨_, rfl, Nat.succ_pos _, Nat.lt_succ_of_lt (Nat.lt_succ_self _)⟩, e2⟩
  case hR =>
    intro h' tk2 m' F' N' hJ hle
    obtain ⟨⟨tc, e1, htc, htc2⟩, e2⟩ := hJ
    rw [hsz] at e1
    have hIT : InTurn := ⟨⟩
    dsimp only
    (repeat' (first | (unfold Hold; first | ((with_reducible show wpAny _ _ (compareOp _ _ _) _ _ _); first | (with_reducible ((with_reducible rename CmpOk _ _ _ _ => hCm); (refine CmpOk.eq_ hCm ?_))) | ((with_reducible rename CmpOk _ _ _ _ => hCm); (refine CmpOk.eq_ hCm ?_))) | ((with_reducible show wpAny _ _ (compareOp _ _ _) _ _ _); first | (with_reducible ((with_reducible rename CmpOk _ _ _ _ => hCm); (refine CmpOk.is_ hCm ?_))) | ((with_reducible rename CmpOk _ _ _ _ => hCm); (refine CmpOk.is_ hCm ?_))) | (have hz9 : NoHalt := ⟨⟩; walk1; all_goals (try clear hz9))) | (k_unfold; (try dsimp only)) | (k_end; wrow_close) | walk1 | (dsimp only; walk1) | (leave1; walk_say "STEP leave1"; try dsimp only) | fail "no step"))
    exact hQ _ _ _ _ _ (Flow.ret _) rfl (by k_asm) (by k_asm) (fun hle => ⟨⟨tc, rfl, htc, htc2⟩, rfl⟩)
end
end
theorem off_W14a : True := by
  w_top off
  trivial
section
theorem slice_dots (d : Nat) (v : List Nat) : KBy.picked (BB (rowN d v)) none (some (d : Int)) = BB (dotsN d) := by
  have hlen : (BB (rowN d v)).size = d + 3 + v.length := by rw [BB_size]; simp [rowN, dotsN]; omega
  rw [KBc.picked_eq]
  simp only [Option.elim_none, Option.elim_some, List.drop_zero, Nat.sub_zero]
  rw [clipAt_nat, hlen, Nat.min_eq_left (by omega)]
  simp only [BB, rowN, List.append_assoc, List.map_append]
  rw [List.take_left' (by simp [dotsN])]
theorem words_cases {x y : Nat} {vs : List Value} (h : BytesAre vs (wordsN x y)) : (x = 0 ∧ y = 0 ∧ vs = []) ∨ (0 < x ∧ y = 0 ∧ ∃ t, vs = [.bytes (B [66, 65 + x]) t]) ∨ (x = 0 ∧ 0 < y ∧ ∃ t, vs = [.bytes (B [66, 65 + y]) t]) ∨ (0 < x ∧ 0 < y ∧ ∃ t u, vs = [.bytes (B [66, 65 + x]) t, .bytes (B [66, 65 + y]) u]) := by
  unfold wordsN at h
  by_cases hx : 0 < x <;> by_cases hy : 0 < y
  · rw [if_pos hx, if_pos hy] at h
    cases h with
    | cons _ t h => cases h with
      | cons _ u h => cases h; exact .inr (.inr (.inr ⟨hx, hy, t, u, rfl⟩))
  · rw [if_pos hx, if_neg hy] at h
    cases h with
    | cons _ t h => cases h; exact .inr (.inl ⟨hx, by omega, t, rfl⟩)
  · rw [if_neg hx, if_pos hy] at h
    cases h with
    | cons _ t h => cases h; exact .inr (.inr (.inl ⟨by omega, hy, t, rfl⟩))
  · rw [if_neg hx, if_neg hy] at h
    cases h; exact .inl ⟨by omega, by omega, rfl⟩
theorem image_facts (a b : Int) (ha : 0 ≤ a ∧ a ≤ 15) (hb : 0 ≤ b ∧ b ≤ 15) :
    ((Builtin.bitXor a b).toNat = 0 → b.toNat = 0 → a = 0) ∧ (b.toNat = 0 → Builtin.bitXor 0 ((Builtin.bitXor a b).toNat : Int) = a) ∧ ((Builtin.bitXor a b).toNat = 0 → Builtin.bitXor 0 (b.toNat : Int) = a) ∧ Builtin.bitXor (Builtin.bitXor 0 ((Builtin.bitXor a b).toNat : Int)) (b.toNat : Int) = a := by
  obtain ⟨a, rfl⟩ := Int.eq_ofNat_of_zero_le ha.1
  obtain ⟨b, rfl⟩ := Int.eq_ofNat_of_zero_le hb.1
  have : ∀ a b : Fin 16, ((Builtin.bitXor (a.val : Int) (b.val : Int)).toNat = 0 → (b.val : Int).toNat = 0 → (a.val : Int) = 0) ∧ ((b.val : Int).toNat = 0 → Builtin.bitXor 0 ((Builtin.bitXor (a.val : Int) (b.val : Int)).toNat : Int) = (a.val : Int)) ∧ ((Builtin.bitXor (a.val : Int) (b.val : Int)).toNat = 0 → Builtin.bitXor 0 (((b.val : Int).toNat : Nat) : Int) = (a.val : Int)) ∧ Builtin.bitXor (Builtin.bitXor 0 ((Builtin.bitXor (a.val : Int) (b.val : Int)).toNat : Int)) (((b.val : Int).toNat : Nat) : Int) = (a.val : Int) := by decide +kernel
  exact this ⟨a, by omega⟩ ⟨b, by omega⟩
theorem letter_is (x : Nat) : 16 * (((66 : Nat) : Int) - 65) + ((65 + x : Nat) : Int) - 65 - 16 = (x : Int) := by omega
theorem image_0 (c : Int) (h1 : xOf c = 0) (h2 : yOf c = 0) : c.fmod 16 = 0 := (image_facts _ _ (fmod16 c) (fmod16 (c.fdiv 16))).1 h1 h2
theorem image_x (c : Int) (h2 : yOf c = 0) : Builtin.bitXor 0 (16 * (((66 : Nat) : Int) - 65) + ((65 + xOf c : Nat) : Int) - 65 - 16) = c.fmod 16 := by
  rw [letter_is]; exact (image_facts _ _ (fmod16 c) (fmod16 (c.fdiv 16))).2.1 h2
theorem image_y (c : Int) (h1 : xOf c = 0) : Builtin.bitXor 0 (16 * (((66 : Nat) : Int) - 65) + ((65 + yOf c : Nat) : Int) - 65 - 16) = c.fmod 16 := by
  rw [letter_is]; exact (image_facts _ _ (fmod16 c) (fmod16 (c.fdiv 16))).2.2.1 h1
theorem image_xy (c : Int) : Builtin.bitXor (Builtin.bitXor 0 (16 * (((66 : Nat) : Int) - 65) + ((65 + xOf c : Nat) : Int) - 65 - 16)) (16 * (((66 : Nat) : Int) - 65) + ((65 + yOf c : Nat) : Int) - 65 - 16) = c.fmod 16 := by
  rw [letter_is, letter_is]; exact (image_facts _ _ (fmod16 c) (fmod16 (c.fdiv 16))).2.2.2
/-- what the inner loop of _law_heard does -/
noncomputable def HeardP (w : World) (A : Around) (st : Stmt) (env : Env) (g : Heap) : Prop :=
  ∀ (r1 r2 r3 r4 : Nat) (o1 o2 o3 o4 : Obj) (m : Str → Option Value) (s : Shared) (d : Nat) (c : Int) (t1 t2 : Tok) (Q : Flow → Shared → Prop),
    d ≤ 10 → m (Str.ofString "row") = some (.bytes (BB (rowN d (cellV c))) t1) → m (Str.ofString "image") = some (.int 0 t2) → Fr g env.locals s.heap m → News g env.locals s.heap [(r1, o1), (r2, o2), (r3, o3), (r4, o4)] →
    (∀ h' tk' m' u, Fr g env.locals h' m' → News g env.locals h' [(r1, o1), (r2, o2), (r3, o3), (r4, o4)] → (∀ y, y ≠ Str.ofString "image" → y ≠ Str.ofString "word" → m' y = m y) → m' (Str.ofString "image") = some (.int (c.fmod 16) u) → Q .next { s with heap := h', toks := tk' }) →
    wpAny (model Challenge.rw_wj0050_01.row.prog w) A (exec st env) Q (fun _ _ => False) s
theorem heard_cut {w : World} {A : Around} {st : Stmt} {env : Env} {s : Shared} {Q : Flow → Shared → Prop} (g : Heap) (turn : HeardP w A st env g) (rest : HeardP w A st env g → wpAny (model Challenge.rw_wj0050_01.row.prog w) A (exec st env) Q (fun _ _ => False) s) :
    Halt (wpAny (model Challenge.rw_wj0050_01.row.prog w) A (exec st env) Q (fun _ _ => False) s) := rest turn
noncomputable abbrev InRest : Prop := Mark 1
theorem mtrans {m m' : Str → Option Value} {x : Str} {v : Option Value} (h : ∀ y, y ≠ Str.ofString "image" → y ≠ Str.ofString "word" → m' y = m y) (h1 : x ≠ Str.ofString "image") (h2 : x ≠ Str.ofString "word") (e : m x = v) : m' x = v := (h x h1 h2).trans e
theorem setItem_at {M : Model} {A : Around} {E : Value → Shared → Prop} {s : Shared} {Q : Unit → Shared → Prop} {a : Value} {k j : Int} {t : Tok} {v : Value} (hk : k = j) (h : wpAny M A (setItem a (.int j t) v) Q E s) : wpAny M A (setItem a (.int k t) v) Q E s := by
  subst hk; exact h
end
theorem off_W14 : True := by
  w_top off
  trivial
section
section
local macro_rules | `(tactic| walk_at "getMethod bytes") => `(tactic| walk_at "H")
local macro_rules | `(tactic| walk_at "call builtin:bytes.split") => `(tactic| walk_at "H")
local macro_rules | `(tactic| walk_at "call builtin:bytes.index") => `(tactic| walk_at "H")
local macro_rules | `(tactic| walk_at "subscriptTail") => `(tactic| walk_at "H")
local macro_rules | `(tactic| walk_at "call ref") => `(tactic| walk_at "H")
local macro_rules | `(tactic| walk_at "exec For Name Call cons nil") => `(tactic| walk_at "H")
local macro_rules | `(tactic| walk_at "exec For Name Subscript cons nil") => `(tactic| walk_at "H")
local macro_rules | `(tactic| walk_at "setItem ref int") => `(tactic| walk_at "H")
theorem law_heard_spec (w : World) (a0 a1 a2 a3 : Int) (tu : Int) (t u : Tok) (htu : 1 ≤ tu ∧ tu ≤ 3) : Spec w 32 256 289 [.bytes (BB (pageN (2 + tu).toNat (3 + tu).toNat (1 + tu).toNat (cellV a2) (cellV a0) (cellV a3) (cellV a1))) t, .int tu u] [] [] (fun _ r n' => ∃ (T : Nat) (u0 u1 u2 u3 : Tok), r = .ref T ∧ n' = [(T, listOf #[.int (a0.fmod 16) u0, .int (a1.fmod 16) u1, .int (a2.fmod 16) u2, .int (a3.fmod 16) u3] 0)]) := by
  ((refine' Spec.enter ?ho ?hcd ?hbind ?hloc ?c2 ?c3 ?c4 ?c5 ?hdd ?_); (case ho => k_is); (case hcd => k_is); (case hbind => first | exact (fun _ _ => BindsTo.of_eq rfl) | (intro _ hX; exact binds_K hX rfl (by k_is) rfl rfl rfl)); (case hloc => exact locs rfl); (case c2 => exact rfl); (case c3 => exact rfl); (case c4 => exact rfl); (case c5 => decide); (case hdd => decide); skip)
  intro loose mean mg mb dp un gd outer A₀ base g L h₁ s Q tk hB hF hX hN hT hd hu hG hQ
  (try dsimp only); (try k_fold)
  (repeat' (first | (unfold Hold; first | ((with_reducible show wpAny _ _ (setItem (Value.ref _) (Value.int (ite _ _ _) _) _) _ _ _); first | (with_reducible (k_dflt (first   | ((refine' setItem_at (j := 0) ?hk0 ?_); (case hk0 => (first | exact ite0 (tuN (by assumption) (by decide)) (by decide) | (split <;> omega))))   | ((refine' setItem_at (j := 1) ?hk1 ?_); (case hk1 => (first | exact ite0 (tuN (by assumption) (by decide)) (by decide) | (split <;> omega))))   | ((refine' setItem_at (j := 2) ?hk2 ?_); (case hk2 => (first | exact ite0 (tuN (by assumption) (by decide)) (by decide) | (split <;> omega))))   | ((refine' setItem_at (j := 3) ?hk3 ?_); (case hk3 => (first | exact ite0 (tuN (by assumption) (by decide)) (by decide) | (split <;> omega))))))) | (k_dflt (first   | ((refine' setItem_at (j := 0) ?hk0 ?_); (case hk0 => (first | exact ite0 (tuN (by assumption) (by decide)) (by decide) | (split <;> omega))))   | ((refine' setItem_at (j := 1) ?hk1 ?_); (case hk1 => (first | exact ite0 (tuN (by assumption) (by decide)) (by decide) | (split <;> omega))))   | ((refine' setItem_at (j := 2) ?hk2 ?_); (case hk2 => (first | exact ite0 (tuN (by assumption) (by decide)) (by decide) | (split <;> omega))))   | ((refine' setItem_at (j := 3) ?hk3 ?_); (case hk3 => (first | exact ite0 (tuN (by assumption) (by decide)) (by decide) | (split <;> omega))))))) | ((with_reducible show wpAny _ _ (exec (PySem.Stmt.For _ (PySem.Expr.Call _ _ _ _) _ _ _) _) _ _ _); first | (with_reducible ((with_reducible rename InTurn => hIT); k_dflt ((with_reducible rename Fr _ _ _ _ => lF'); (with_unfolding_all refine' For_turns lF' ?_; k_whole)))) | ((with_reducible rename InTurn => hIT); k_dflt ((with_reducible rename Fr _ _ _ _ => lF'); (with_unfolding_all refine' For_turns lF' ?_; k_whole)))) | ((with_reducible show wpAny _ _ (call (Value.ref 261) [Value.bytes _ _]) _ _ _); first | (with_reducible (k_dflt (refine' Spec.use (law_number_spec _ _ _ ?ha ?hb _) _ ?k1 ?k2 ?k3 ?k4 ?k5 ?kK ?kd ?ku (led_nil _) (led_self _) (led_none _) ?_); (case ha => omega); (case hb => omega); ((case k1 => first | k_asm | fail "spec: the frames below"); (case k2 => first | k_asm | k_dflt assumption | fail "spec: the frame"); (case k3 => first | k_asm | fail "spec: the written part"); (case k4 => first | k_asm | k_dflt assumption | fail "spec: the ledger"); (case k5 => first | k_asm | fail "spec: the top's facts"); (case kK => first | exact rfl | assumption | fail "spec: the caller is no def"); (case kd => first | (with_reducible exact roomN (by assumption) (by decide)) | ktr_room | fail "spec: room"); (case ku => first | (with_reducible exact roomN (by assumption) (by decide)) | ktr_units | fail "spec: units")); intro r9 h9 tk9 n9 F9 N9 _ R9; obtain ⟨⟨t9, e9⟩, e8⟩ := R9; subst e9; subst e8; (try simp only [List.nil_append, List.cons_append] at N9); (try dsimp only); (try k_fold))) | (k_dflt (refine' Spec.use (law_number_spec _ _ _ ?ha ?hb _) _ ?k1 ?k2 ?k3 ?k4 ?k5 ?kK ?kd ?ku (led_nil _) (led_self _) (led_none _) ?_); (case ha => omega); (case hb => omega); ((case k1 => first | k_asm | fail "spec: the frames below"); (case k2 => first | k_asm | k_dflt assumption | fail "spec: the frame"); (case k3 => first | k_asm | fail "spec: the written part"); (case k4 => first | k_asm | k_dflt assumption | fail "spec: the ledger"); (case k5 => first | k_asm | fail "spec: the top's facts"); (case kK => first | exact rfl | assumption | fail "spec: the caller is no def"); (case kd => first | (with_reducible exact roomN (by assumption) (by decide)) | ktr_room | fail "spec: room"); (case ku => first | (with_reducible exact roomN (by assumption) (by decide)) | ktr_units | fail "spec: units")); intro r9 h9 tk9 n9 F9 N9 _ R9; obtain ⟨⟨t9, e9⟩, e8⟩ := R9; subst e9; subst e8; (try simp only [List.nil_append, List.cons_append] at N9); (try dsimp only); (try k_fold))) | ((with_reducible show wpAny _ _ (call (Value.ref 57) [Value.bytes _ _]) _ _ _); first | (with_reducible (k_dflt (refine' Spec.use (parse_flags_spec _ _ _ _ _ _ ?ha ?hb ?hc ?he) _ ?k1 ?k2 ?k3 ?k4 ?k5 ?kK ?kd ?ku (led_nil _) (led_self _) (led_none _) ?_); (case ha => assumption); (case hb => assumption); (case hc => assumption); (case he => assumption); ((case k1 => first | k_asm | fail "spec: the frames below"); (case k2 => first | k_asm | k_dflt assumption | fail "spec: the frame"); (case k3 => first | k_asm | fail "spec: the written part"); (case k4 => first | k_asm | k_dflt assumption | fail "spec: the ledger"); (case k5 => first | k_asm | fail "spec: the top's facts"); (case kK => first | exact rfl | assumption | fail "spec: the caller is no def"); (case kd => first | (with_reducible exact roomN (by assumption) (by decide)) | ktr_room | fail "spec: room"); (case ku => first | (with_reducible exact roomN (by assumption) (by decide)) | ktr_units | fail "spec: units")); intro r9 h9 tk9 n9 F9 N9 _ R9; obtain ⟨T9, vs9, e9, hb9, e8⟩ := R9; subst e9; subst e8; (try simp only [List.nil_append, List.cons_append] at N9); (try dsimp only); rcases words_cases hb9 with ⟨hz1, hz2, hz3⟩ | ⟨hz1, hz2, t9, hz3⟩ | ⟨hz1, hz2, t9, hz3⟩ | ⟨hz1, hz2, t9, u9, hz3⟩ <;> subst hz3)) | (k_dflt (refine' Spec.use (parse_flags_spec _ _ _ _ _ _ ?ha ?hb ?hc ?he) _ ?k1 ?k2 ?k3 ?k4 ?k5 ?kK ?kd ?ku (led_nil _) (led_self _) (led_none _) ?_); (case ha => assumption); (case hb => assumption); (case hc => assumption); (case he => assumption); ((case k1 => first | k_asm | fail "spec: the frames below"); (case k2 => first | k_asm | k_dflt assumption | fail "spec: the frame"); (case k3 => first | k_asm | fail "spec: the written part"); (case k4 => first | k_asm | k_dflt assumption | fail "spec: the ledger"); (case k5 => first | k_asm | fail "spec: the top's facts"); (case kK => first | exact rfl | assumption | fail "spec: the caller is no def"); (case kd => first | (with_reducible exact roomN (by assumption) (by decide)) | ktr_room | fail "spec: room"); (case ku => first | (with_reducible exact roomN (by assumption) (by decide)) | ktr_units | fail "spec: units")); intro r9 h9 tk9 n9 F9 N9 _ R9; obtain ⟨T9, vs9, e9, hb9, e8⟩ := R9; subst e9; subst e8; (try simp only [List.nil_append, List.cons_append] at N9); (try dsimp only); rcases words_cases hb9 with ⟨hz1, hz2, hz3⟩ | ⟨hz1, hz2, t9, hz3⟩ | ⟨hz1, hz2, t9, hz3⟩ | ⟨hz1, hz2, t9, u9, hz3⟩ <;> subst hz3)) | ((with_reducible show wpAny _ _ (exec (PySem.Stmt.For _ (PySem.Expr.Subscript _ _ _) _ _ _) _) _ _ _); first | (with_reducible (k_dflt ((with_reducible rename Fr _ _ _ _ => lF'); (with_unfolding_all refine' For_invVF lF' ?k1 ?k2 ?_; (case k1 => exact rfl); (case k2 => exact rfl); k_whole)))) | (k_dflt ((with_reducible rename Fr _ _ _ _ => lF'); (with_unfolding_all refine' For_invVF lF' ?k1 ?k2 ?_; (case k1 => exact rfl); (case k2 => exact rfl); k_whole)))) | ((with_reducible show wpAny _ _ (exec (PySem.Stmt.For _ (PySem.Expr.Call _ _ _ _) _ _ _) _) _ _ _); first | (with_reducible ((fail_if_success (with_reducible rename InTurn => hIT)); refine halt ?_)) | ((fail_if_success (with_reducible rename InTurn => hIT)); refine halt ?_)) | ((with_reducible show wpAny _ _ (call (Value.ref 78) [Value.bytes _ _, Value.int _ _]) _ _ _); first | (with_reducible (k_dflt (refine' SpecK.use (count_dots_spec _ _ _ _ ?ha ?hb) _ ?k1 ?k2 ?k3 ?k4 ?k5 ?kK ?kd ?ku (led_nil _) (led_self _) (led_none _) ?_); (case ha => (first | (with_reducible first | exact tuL (by assumption) (by decide) | exact tuI (by assumption) (by decide) | exact tuJ (by assumption) (by decide) | exact Nat.zero_le _) | omega)); (case hb => (refine Nat.ne_of_gt ?_; (show (0 : Nat) < (_ : Nat)); first | exact posK (by assumption) (by assumption) | omega)); ((case k1 => first | k_asm | fail "spec: the frames below"); (case k2 => first | k_asm | k_dflt assumption | fail "spec: the frame"); (case k3 => first | k_asm | fail "spec: the written part"); (case k4 => first | k_asm | k_dflt assumption | fail "spec: the ledger"); (case k5 => first | k_asm | fail "spec: the top's facts"); (case kK => first | exact rfl | assumption | fail "spec: the caller is no def"); (case kd => first | (with_reducible exact roomN (by assumption) (by decide)) | ktr_room | fail "spec: room"); (case ku => first | (with_reducible exact roomN (by assumption) (by decide)) | ktr_units | fail "spec: units")); intro r9 h9 tk9 n9 F9 N9 _ hk9 R9; (try dsimp only at hk9); obtain ⟨⟨t9, e9, p9, q9⟩, e8⟩ := R9; subst e9; subst e8; (try simp only [List.nil_append, List.cons_append] at N9); (try dsimp only); (try k_fold))) | (k_dflt (refine' SpecK.use (count_dots_spec _ _ _ _ ?ha ?hb) _ ?k1 ?k2 ?k3 ?k4 ?k5 ?kK ?kd ?ku (led_nil _) (led_self _) (led_none _) ?_); (case ha => (first | (with_reducible first | exact tuL (by assumption) (by decide) | exact tuI (by assumption) (by decide) | exact tuJ (by assumption) (by decide) | exact Nat.zero_le _) | omega)); (case hb => (refine Nat.ne_of_gt ?_; (show (0 : Nat) < (_ : Nat)); first | exact posK (by assumption) (by assumption) | omega)); ((case k1 => first | k_asm | fail "spec: the frames below"); (case k2 => first | k_asm | k_dflt assumption | fail "spec: the frame"); (case k3 => first | k_asm | fail "spec: the written part"); (case k4 => first | k_asm | k_dflt assumption | fail "spec: the ledger"); (case k5 => first | k_asm | fail "spec: the top's facts"); (case kK => first | exact rfl | assumption | fail "spec: the caller is no def"); (case kd => first | (with_reducible exact roomN (by assumption) (by decide)) | ktr_room | fail "spec: room"); (case ku => first | (with_reducible exact roomN (by assumption) (by decide)) | ktr_units | fail "spec: units")); intro r9 h9 tk9 n9 F9 N9 _ hk9 R9; (try dsimp only at hk9); obtain ⟨⟨t9, e9, p9, q9⟩, e8⟩ := R9; subst e9; subst e8; (try simp only [List.nil_append, List.cons_append] at N9); (try dsimp only); (try k_fold))) | ((with_reducible show wpAny _ _ (subscriptTail _ (Expr.Slice _ _ none _) (Value.bytes _ _) (Value.ref _)) _ _ _); first | (with_reducible ((with_reducible rename Fr _ _ _ _ => F'); (with_reducible rename News _ _ _ _ => N'); (refine wpAny_toks' (slice_any (s := ⟨_, _, _, _, _⟩) F' N' (by constructor) (by constructor) (by rw [BB_size]; exact Nat.le_trans (row_len (by (first | (with_reducible first | exact tuL (by assumption) (by decide) | exact tuI (by assumption) (by decide) | exact tuJ (by assumption) (by decide) | exact Nat.zero_le _) | omega)) (cell_len _)) (by decide)) ?_)); intro h' t' k' F' N' hk'; (try dsimp only at hk'); rw [slice_dots])) | ((with_reducible rename Fr _ _ _ _ => F'); (with_reducible rename News _ _ _ _ => N'); (refine wpAny_toks' (slice_any (s := ⟨_, _, _, _, _⟩) F' N' (by constructor) (by constructor) (by rw [BB_size]; exact Nat.le_trans (row_len (by (first | (with_reducible first | exact tuL (by assumption) (by decide) | exact tuI (by assumption) (by decide) | exact tuJ (by assumption) (by decide) | exact Nat.zero_le _) | omega)) (cell_len _)) (by decide)) ?_)); intro h' t' k' F' N' hk'; (try dsimp only at hk'); rw [slice_dots])) | ((with_reducible show wpAny _ _ (call (Value.builtin "bytes.index") _ _) _ _ _); first | (with_reducible (k_dflt (refine wpAny_toks' (index_t (cell_signs _) ?_)); intro t' k' hk'; (try dsimp only at hk'))) | (k_dflt (refine wpAny_toks' (index_t (cell_signs _) ?_)); intro t' k' hk'; (try dsimp only at hk'))) | ((with_reducible show wpAny _ _ (call (Value.builtin "bytes.split") _ _) _ _ _); first | (with_reducible (k_dflt (refine' split_page ?j1 ?j2 ?a1 ?a2 ?a3 ?b1 ?b2 ?b3 ?b4 ?c1 ?c2 ?c3 ?c4 ?_; (case j1 => k_asm); (case j2 => k_asm); (case a1 => (first | (with_reducible first | exact tuL (by assumption) (by decide) | exact tuI (by assumption) (by decide) | exact tuJ (by assumption) (by decide) | exact Nat.zero_le _) | omega)); (case a2 => (first | (with_reducible first | exact tuL (by assumption) (by decide) | exact tuI (by assumption) (by decide) | exact tuJ (by assumption) (by decide) | exact Nat.zero_le _) | omega)); (case a3 => (first | (with_reducible first | exact tuL (by assumption) (by decide) | exact tuI (by assumption) (by decide) | exact tuJ (by assumption) (by decide) | exact Nat.zero_le _) | omega)); (case b1 => exact cell_len _); (case b2 => exact cell_len _); (case b3 => exact cell_len _); (case b4 => exact cell_len _); (case c1 => exact cell_signs _); (case c2 => exact cell_signs _); (case c3 => exact cell_signs _); (case c4 => exact cell_signs _)); intro h' a' t2' t0' t3' t1' t4' t5' k' l1 F' N'; (try k_lt l1))) | (k_dflt (refine' split_page ?j1 ?j2 ?a1 ?a2 ?a3 ?b1 ?b2 ?b3 ?b4 ?c1 ?c2 ?c3 ?c4 ?_; (case j1 => k_asm); (case j2 => k_asm); (case a1 => (first | (with_reducible first | exact tuL (by assumption) (by decide) | exact tuI (by assumption) (by decide) | exact tuJ (by assumption) (by decide) | exact Nat.zero_le _) | omega)); (case a2 => (first | (with_reducible first | exact tuL (by assumption) (by decide) | exact tuI (by assumption) (by decide) | exact tuJ (by assumption) (by decide) | exact Nat.zero_le _) | omega)); (case a3 => (first | (with_reducible first | exact tuL (by assumption) (by decide) | exact tuI (by assumption) (by decide) | exact tuJ (by assumption) (by decide) | exact Nat.zero_le _) | omega)); (case b1 => exact cell_len _); (case b2 => exact cell_len _); (case b3 => exact cell_len _); (case b4 => exact cell_len _); (case c1 => exact cell_signs _); (case c2 => exact cell_signs _); (case c3 => exact cell_signs _); (case c4 => exact cell_signs _)); intro h' a' t2' t0' t3' t1' t4' t5' k' l1 F' N'; (try k_lt l1))) | ((with_reducible show wpAny _ _ (getMethod _ _ _) _ _ _); first | (with_reducible ((with_reducible first   | (show wpAny _ _ (getMethod (Value.bytes _ _) (Str.ofString "split") _) _ _ _; refine method_split ?_)   | (show wpAny _ _ (getMethod (Value.bytes _ _) (Str.ofString "index") _) _ _ _; refine method_index ?_)))) | ((with_reducible first   | (show wpAny _ _ (getMethod (Value.bytes _ _) (Str.ofString "split") _) _ _ _; refine method_split ?_)   | (show wpAny _ _ (getMethod (Value.bytes _ _) (Str.ofString "index") _) _ _ _; refine method_index ?_)))) | (have hz9 : NoHalt := ⟨⟩; walk1; all_goals (try clear hz9))) | (k_unfold; (try dsimp only)) | (k_end; wrow_close) | walk1 | (dsimp only; walk1) | (leave1; walk_say "STEP leave1"; try dsimp only) | fail "no step"))
  refine heard_cut g ?turn ?rest
  case turn =>
    unfold HeardP
    intro r1 r2 r3 r4 o1 o2 o3 o4 m s' d c t1 t2 Q' hdd hm1 hm2 hF' hN' hQ'
    have hIT : InTurn := ⟨⟩
    have hcb := cell_bounds c
    have hx1 := hcb.1
    have hx2 := hcb.2.1
    have hx3 := hcb.2.2
    (repeat' (first | (unfold Hold; first | ((with_reducible show wpAny _ _ (setItem (Value.ref _) (Value.int (ite _ _ _) _) _) _ _ _); first | (with_reducible (k_dflt (first   | ((refine' setItem_at (j := 0) ?hk0 ?_); (case hk0 => (first | exact ite0 (tuN (by assumption) (by decide)) (by decide) | (split <;> omega))))   | ((refine' setItem_at (j := 1) ?hk1 ?_); (case hk1 => (first | exact ite0 (tuN (by assumption) (by decide)) (by decide) | (split <;> omega))))   | ((refine' setItem_at (j := 2) ?hk2 ?_); (case hk2 => (first | exact ite0 (tuN (by assumption) (by decide)) (by decide) | (split <;> omega))))   | ((refine' setItem_at (j := 3) ?hk3 ?_); (case hk3 => (first | exact ite0 (tuN (by assumption) (by decide)) (by decide) | (split <;> omega))))))) | (k_dflt (first   | ((refine' setItem_at (j := 0) ?hk0 ?_); (case hk0 => (first | exact ite0 (tuN (by assumption) (by decide)) (by decide) | (split <;> omega))))   | ((refine' setItem_at (j := 1) ?hk1 ?_); (case hk1 => (first | exact ite0 (tuN (by assumption) (by decide)) (by decide) | (split <;> omega))))   | ((refine' setItem_at (j := 2) ?hk2 ?_); (case hk2 => (first | exact ite0 (tuN (by assumption) (by decide)) (by decide) | (split <;> omega))))   | ((refine' setItem_at (j := 3) ?hk3 ?_); (case hk3 => (first | exact ite0 (tuN (by assumption) (by decide)) (by decide) | (split <;> omega))))))) | ((with_reducible show wpAny _ _ (exec (PySem.Stmt.For _ (PySem.Expr.Call _ _ _ _) _ _ _) _) _ _ _); first | (with_reducible ((with_reducible rename InTurn => hIT); k_dflt ((with_reducible rename Fr _ _ _ _ => lF'); (with_unfolding_all refine' For_turns lF' ?_; k_whole)))) | ((with_reducible rename InTurn => hIT); k_dflt ((with_reducible rename Fr _ _ _ _ => lF'); (with_unfolding_all refine' For_turns lF' ?_; k_whole)))) | ((with_reducible show wpAny _ _ (call (Value.ref 261) [Value.bytes _ _]) _ _ _); first | (with_reducible (k_dflt (refine' Spec.use (law_number_spec _ _ _ ?ha ?hb _) _ ?k1 ?k2 ?k3 ?k4 ?k5 ?kK ?kd ?ku (led_nil _) (led_self _) (led_none _) ?_); (case ha => omega); (case hb => omega); ((case k1 => first | k_asm | fail "spec: the frames below"); (case k2 => first | k_asm | k_dflt assumption | fail "spec: the frame"); (case k3 => first | k_asm | fail "spec: the written part"); (case k4 => first | k_asm | k_dflt assumption | fail "spec: the ledger"); (case k5 => first | k_asm | fail "spec: the top's facts"); (case kK => first | exact rfl | assumption | fail "spec: the caller is no def"); (case kd => first | (with_reducible exact roomN (by assumption) (by decide)) | ktr_room | fail "spec: room"); (case ku => first | (with_reducible exact roomN (by assumption) (by decide)) | ktr_units | fail "spec: units")); intro r9 h9 tk9 n9 F9 N9 _ R9; obtain ⟨⟨t9, e9⟩, e8⟩ := R9; subst e9; subst e8; (try simp only [List.nil_append, List.cons_append] at N9); (try dsimp only); (try k_fold))) | (k_dflt (refine' Spec.use (law_number_spec _ _ _ ?ha ?hb _) _ ?k1 ?k2 ?k3 ?k4 ?k5 ?kK ?kd ?ku (led_nil _) (led_self _) (led_none _) ?_); (case ha => omega); (case hb => omega); ((case k1 => first | k_asm | fail "spec: the frames below"); (case k2 => first | k_asm | k_dflt assumption | fail "spec: the frame"); (case k3 => first | k_asm | fail "spec: the written part"); (case k4 => first | k_asm | k_dflt assumption | fail "spec: the ledger"); (case k5 => first | k_asm | fail "spec: the top's facts"); (case kK => first | exact rfl | assumption | fail "spec: the caller is no def"); (case kd => first | (with_reducible exact roomN (by assumption) (by decide)) | ktr_room | fail "spec: room"); (case ku => first | (with_reducible exact roomN (by assumption) (by decide)) | ktr_units | fail "spec: units")); intro r9 h9 tk9 n9 F9 N9 _ R9; obtain ⟨⟨t9, e9⟩, e8⟩ := R9; subst e9; subst e8; (try simp only [List.nil_append, List.cons_append] at N9); (try dsimp only); (try k_fold))) | ((with_reducible show wpAny _ _ (call (Value.ref 57) [Value.bytes _ _]) _ _ _); first | (with_reducible (k_dflt (refine' Spec.use (parse_flags_spec _ _ _ _ _ _ ?ha ?hb ?hc ?he) _ ?k1 ?k2 ?k3 ?k4 ?k5 ?kK ?kd ?ku (led_nil _) (led_self _) (led_none _) ?_); (case ha => assumption); (case hb => assumption); (case hc => assumption); (case he => assumption); ((case k1 => first | k_asm | fail "spec: the frames below"); (case k2 => first | k_asm | k_dflt assumption | fail "spec: the frame"); (case k3 => first | k_asm | fail "spec: the written part"); (case k4 => first | k_asm | k_dflt assumption | fail "spec: the ledger"); (case k5 => first | k_asm | fail "spec: the top's facts"); (case kK => first | exact rfl | assumption | fail "spec: the caller is no def"); (case kd => first | (with_reducible exact roomN (by assumption) (by decide)) | ktr_room | fail "spec: room"); (case ku => first | (with_reducible exact roomN (by assumption) (by decide)) | ktr_units | fail "spec: units")); intro r9 h9 tk9 n9 F9 N9 _ R9; obtain ⟨T9, vs9, e9, hb9, e8⟩ := R9; subst e9; subst e8; (try simp only [List.nil_append, List.cons_append] at N9); (try dsimp only); rcases words_cases hb9 with ⟨hz1, hz2, hz3⟩ | ⟨hz1, hz2, t9, hz3⟩ | ⟨hz1, hz2, t9, hz3⟩ | ⟨hz1, hz2, t9, u9, hz3⟩ <;> subst hz3)) | (k_dflt (refine' Spec.use (parse_flags_spec _ _ _ _ _ _ ?ha ?hb ?hc ?he) _ ?k1 ?k2 ?k3 ?k4 ?k5 ?kK ?kd ?ku (led_nil _) (led_self _) (led_none _) ?_); (case ha => assumption); (case hb => assumption); (case hc => assumption); (case he => assumption); ((case k1 => first | k_asm | fail "spec: the frames below"); (case k2 => first | k_asm | k_dflt assumption | fail "spec: the frame"); (case k3 => first | k_asm | fail "spec: the written part"); (case k4 => first | k_asm | k_dflt assumption | fail "spec: the ledger"); (case k5 => first | k_asm | fail "spec: the top's facts"); (case kK => first | exact rfl | assumption | fail "spec: the caller is no def"); (case kd => first | (with_reducible exact roomN (by assumption) (by decide)) | ktr_room | fail "spec: room"); (case ku => first | (with_reducible exact roomN (by assumption) (by decide)) | ktr_units | fail "spec: units")); intro r9 h9 tk9 n9 F9 N9 _ R9; obtain ⟨T9, vs9, e9, hb9, e8⟩ := R9; subst e9; subst e8; (try simp only [List.nil_append, List.cons_append] at N9); (try dsimp only); rcases words_cases hb9 with ⟨hz1, hz2, hz3⟩ | ⟨hz1, hz2, t9, hz3⟩ | ⟨hz1, hz2, t9, hz3⟩ | ⟨hz1, hz2, t9, u9, hz3⟩ <;> subst hz3)) | ((with_reducible show wpAny _ _ (exec (PySem.Stmt.For _ (PySem.Expr.Subscript _ _ _) _ _ _) _) _ _ _); first | (with_reducible (k_dflt ((with_reducible rename Fr _ _ _ _ => lF'); (with_unfolding_all refine' For_invVF lF' ?k1 ?k2 ?_; (case k1 => exact rfl); (case k2 => exact rfl); k_whole)))) | (k_dflt ((with_reducible rename Fr _ _ _ _ => lF'); (with_unfolding_all refine' For_invVF lF' ?k1 ?k2 ?_; (case k1 => exact rfl); (case k2 => exact rfl); k_whole)))) | ((with_reducible show wpAny _ _ (exec (PySem.Stmt.For _ (PySem.Expr.Call _ _ _ _) _ _ _) _) _ _ _); first | (with_reducible ((fail_if_success (with_reducible rename InTurn => hIT)); refine halt ?_)) | ((fail_if_success (with_reducible rename InTurn => hIT)); refine halt ?_)) | ((with_reducible show wpAny _ _ (call (Value.ref 78) [Value.bytes _ _, Value.int _ _]) _ _ _); first | (with_reducible (k_dflt (refine' SpecK.use (count_dots_spec _ _ _ _ ?ha ?hb) _ ?k1 ?k2 ?k3 ?k4 ?k5 ?kK ?kd ?ku (led_nil _) (led_self _) (led_none _) ?_); (case ha => (first | (with_reducible first | exact tuL (by assumption) (by decide) | exact tuI (by assumption) (by decide) | exact tuJ (by assumption) (by decide) | exact Nat.zero_le _) | omega)); (case hb => (refine Nat.ne_of_gt ?_; (show (0 : Nat) < (_ : Nat)); first | exact posK (by assumption) (by assumption) | omega)); ((case k1 => first | k_asm | fail "spec: the frames below"); (case k2 => first | k_asm | k_dflt assumption | fail "spec: the frame"); (case k3 => first | k_asm | fail "spec: the written part"); (case k4 => first | k_asm | k_dflt assumption | fail "spec: the ledger"); (case k5 => first | k_asm | fail "spec: the top's facts"); (case kK => first | exact rfl | assumption | fail "spec: the caller is no def"); (case kd => first | (with_reducible exact roomN (by assumption) (by decide)) | ktr_room | fail "spec: room"); (case ku => first | (with_reducible exact roomN (by assumption) (by decide)) | ktr_units | fail "spec: units")); intro r9 h9 tk9 n9 F9 N9 _ hk9 R9; (try dsimp only at hk9); obtain ⟨⟨t9, e9, p9, q9⟩, e8⟩ := R9; subst e9; subst e8; (try simp only [List.nil_append, List.cons_append] at N9); (try dsimp only); (try k_fold))) | (k_dflt (refine' SpecK.use (count_dots_spec _ _ _ _ ?ha ?hb) _ ?k1 ?k2 ?k3 ?k4 ?k5 ?kK ?kd ?ku (led_nil _) (led_self _) (led_none _) ?_); (case ha => (first | (with_reducible first | exact tuL (by assumption) (by decide) | exact tuI (by assumption) (by decide) | exact tuJ (by assumption) (by decide) | exact Nat.zero_le _) | omega)); (case hb => (refine Nat.ne_of_gt ?_; (show (0 : Nat) < (_ : Nat)); first | exact posK (by assumption) (by assumption) | omega)); ((case k1 => first | k_asm | fail "spec: the frames below"); (case k2 => first | k_asm | k_dflt assumption | fail "spec: the frame"); (case k3 => first | k_asm | fail "spec: the written part"); (case k4 => first | k_asm | k_dflt assumption | fail "spec: the ledger"); (case k5 => first | k_asm | fail "spec: the top's facts"); (case kK => first | exact rfl | assumption | fail "spec: the caller is no def"); (case kd => first | (with_reducible exact roomN (by assumption) (by decide)) | ktr_room | fail "spec: room"); (case ku => first | (with_reducible exact roomN (by assumption) (by decide)) | ktr_units | fail "spec: units")); intro r9 h9 tk9 n9 F9 N9 _ hk9 R9; (try dsimp only at hk9); obtain ⟨⟨t9, e9, p9, q9⟩, e8⟩ := R9; subst e9; subst e8; (try simp only [List.nil_append, List.cons_append] at N9); (try dsimp only); (try k_fold))) | ((with_reducible show wpAny _ _ (subscriptTail _ (Expr.Slice _ _ none _) (Value.bytes _ _) (Value.ref _)) _ _ _); first | (with_reducible ((with_reducible rename Fr _ _ _ _ => F'); (with_reducible rename News _ _ _ _ => N'); (refine wpAny_toks' (slice_any (s := ⟨_, _, _, _, _⟩) F' N' (by constructor) (by constructor) (by rw [BB_size]; exact Nat.le_trans (row_len (by (first | (with_reducible first | exact tuL (by assumption) (by decide) | exact tuI (by assumption) (by decide) | exact tuJ (by assumption) (by decide) | exact Nat.zero_le _) | omega)) (cell_len _)) (by decide)) ?_)); intro h' t' k' F' N' hk'; (try dsimp only at hk'); rw [slice_dots])) | ((with_reducible rename Fr _ _ _ _ => F'); (with_reducible rename News _ _ _ _ => N'); (refine wpAny_toks' (slice_any (s := ⟨_, _, _, _, _⟩) F' N' (by constructor) (by constructor) (by rw [BB_size]; exact Nat.le_trans (row_len (by (first | (with_reducible first | exact tuL (by assumption) (by decide) | exact tuI (by assumption) (by decide) | exact tuJ (by assumption) (by decide) | exact Nat.zero_le _) | omega)) (cell_len _)) (by decide)) ?_)); intro h' t' k' F' N' hk'; (try dsimp only at hk'); rw [slice_dots])) | ((with_reducible show wpAny _ _ (call (Value.builtin "bytes.index") _ _) _ _ _); first | (with_reducible (k_dflt (refine wpAny_toks' (index_t (cell_signs _) ?_)); intro t' k' hk'; (try dsimp only at hk'))) | (k_dflt (refine wpAny_toks' (index_t (cell_signs _) ?_)); intro t' k' hk'; (try dsimp only at hk'))) | ((with_reducible show wpAny _ _ (call (Value.builtin "bytes.split") _ _) _ _ _); first | (with_reducible (k_dflt (refine' split_page ?j1 ?j2 ?a1 ?a2 ?a3 ?b1 ?b2 ?b3 ?b4 ?c1 ?c2 ?c3 ?c4 ?_; (case j1 => k_asm); (case j2 => k_asm); (case a1 => (first | (with_reducible first | exact tuL (by assumption) (by decide) | exact tuI (by assumption) (by decide) | exact tuJ (by assumption) (by decide) | exact Nat.zero_le _) | omega)); (case a2 => (first | (with_reducible first | exact tuL (by assumption) (by decide) | exact tuI (by assumption) (by decide) | exact tuJ (by assumption) (by decide) | exact Nat.zero_le _) | omega)); (case a3 => (first | (with_reducible first | exact tuL (by assumption) (by decide) | exact tuI (by assumption) (by decide) | exact tuJ (by assumption) (by decide) | exact Nat.zero_le _) | omega)); (case b1 => exact cell_len _); (case b2 => exact cell_len _); (case b3 => exact cell_len _); (case b4 => exact cell_len _); (case c1 => exact cell_signs _); (case c2 => exact cell_signs _); (case c3 => exact cell_signs _); (case c4 => exact cell_signs _)); intro h' a' t2' t0' t3' t1' t4' t5' k' l1 F' N'; (try k_lt l1))) | (k_dflt (refine' split_page ?j1 ?j2 ?a1 ?a2 ?a3 ?b1 ?b2 ?b3 ?b4 ?c1 ?c2 ?c3 ?c4 ?_; (case j1 => k_asm); (case j2 => k_asm); (case a1 => (first | (with_reducible first | exact tuL (by assumption) (by decide) | exact tuI (by assumption) (by decide) | exact tuJ (by assumption) (by decide) | exact Nat.zero_le _) | omega)); (case a2 => (first | (with_reducible first | exact tuL (by assumption) (by decide) | exact tuI (by assumption) (by decide) | exact tuJ (by assumption) (by decide) | exact Nat.zero_le _) | omega)); (case a3 => (first | (with_reducible first | exact tuL (by assumption) (by decide) | exact tuI (by assumption) (by decide) | exact tuJ (by assumption) (by decide) | exact Nat.zero_le _) | omega)); (case b1 => exact cell_len _); (case b2 => exact cell_len _); (case b3 => exact cell_len _); (case b4 => exact cell_len _); (case c1 => exact cell_signs _); (case c2 => exact cell_signs _); (case c3 => exact cell_signs _); (case c4 => exact cell_signs _)); intro h' a' t2' t0' t3' t1' t4' t5' k' l1 F' N'; (try k_lt l1))) | ((with_reducible show wpAny _ _ (getMethod _ _ _) _ _ _); first | (with_reducible ((with_reducible first   | (show wpAny _ _ (getMethod (Value.bytes _ _) (Str.ofString "split") _) _ _ _; refine method_split ?_)   | (show wpAny _ _ (getMethod (Value.bytes _ _) (Str.ofString "index") _) _ _ _; refine method_index ?_)))) | ((with_reducible first   | (show wpAny _ _ (getMethod (Value.bytes _ _) (Str.ofString "split") _) _ _ _; refine method_split ?_)   | (show wpAny _ _ (getMethod (Value.bytes _ _) (Str.ofString "index") _) _ _ _; refine method_index ?_)))) | (have hz9 : NoHalt := ⟨⟩; walk1; all_goals (try clear hz9))) | (k_unfold; (try dsimp only)) | (k_end; wrow_close) | walk1 | (dsimp only; walk1) | (leave1; walk_say "STEP leave1"; try dsimp only) | fail "no step"))
    all_goals (with_reducible rename News _ _ _ (_ :: _) => NN)
    · refine hQ' _ _ _ t2 (by k_asm) (fun p hp => NN p (List.mem_cons_of_mem _ hp)) (fun y h1 h2 => rfl) ?_
      rw [hm2, image_0 c (by assumption) (by assumption)]
    · refine hQ' _ _ _ _ (by k_asm) (fun p hp => NN p (List.mem_cons_of_mem _ hp)) (fun y h1 h2 => by simp only [h1, h2, if_false]) (congrArg (fun z => some (Value.int z _)) (image_x c (by assumption)))
    · refine hQ' _ _ _ _ (by k_asm) (fun p hp => NN p (List.mem_cons_of_mem _ hp)) (fun y h1 h2 => by simp only [h1, h2, if_false]) (congrArg (fun z => some (Value.int z _)) (image_y c (by assumption)))
    · refine hQ' _ _ _ _ (by k_asm) (fun p hp => NN p (List.mem_cons_of_mem _ hp)) (fun y h1 h2 => by simp only [h1, h2, if_false]) (congrArg (fun z => some (Value.int z _)) (image_xy c))
  case rest =>
    intro turn
    (with_reducible rename News _ _ _ (_ :: _) => NN)
    refine' turn _ _ _ _ _ _ _ _ _ _ _ _ _ _ _ ?hd ?hm1 ?hm2 ?hF NN ?_
    case hF => k_asm
    case hm1 => exact rfl
    case hm2 => exact rfl
    case hd => omega
    intro h9 tk9 mA uA F9 N9 sA iA
    have eA1 : mA (Str.ofString "told") = some _ := mtrans sA (by decide) (by decide) rfl
    have eA2 : mA (Str.ofString "turns") = some _ := mtrans sA (by decide) (by decide) rfl
    have eA3 : mA (Str.ofString "dots") = some _ := mtrans sA (by decide) (by decide) rfl
    have hIR : InRest := ⟨⟩
    (try dsimp only)
    (try k_fold)
    (repeat' (first | (unfold Hold; first | ((with_reducible show wpAny _ _ (setItem (Value.ref _) (Value.int (ite _ _ _) _) _) _ _ _); first | (with_reducible (k_dflt (first   | ((refine' setItem_at (j := 0) ?hk0 ?_); (case hk0 => (first | exact ite0 (tuN (by assumption) (by decide)) (by decide) | (split <;> omega))))   | ((refine' setItem_at (j := 1) ?hk1 ?_); (case hk1 => (first | exact ite0 (tuN (by assumption) (by decide)) (by decide) | (split <;> omega))))   | ((refine' setItem_at (j := 2) ?hk2 ?_); (case hk2 => (first | exact ite0 (tuN (by assumption) (by decide)) (by decide) | (split <;> omega))))   | ((refine' setItem_at (j := 3) ?hk3 ?_); (case hk3 => (first | exact ite0 (tuN (by assumption) (by decide)) (by decide) | (split <;> omega))))))) | (k_dflt (first   | ((refine' setItem_at (j := 0) ?hk0 ?_); (case hk0 => (first | exact ite0 (tuN (by assumption) (by decide)) (by decide) | (split <;> omega))))   | ((refine' setItem_at (j := 1) ?hk1 ?_); (case hk1 => (first | exact ite0 (tuN (by assumption) (by decide)) (by decide) | (split <;> omega))))   | ((refine' setItem_at (j := 2) ?hk2 ?_); (case hk2 => (first | exact ite0 (tuN (by assumption) (by decide)) (by decide) | (split <;> omega))))   | ((refine' setItem_at (j := 3) ?hk3 ?_); (case hk3 => (first | exact ite0 (tuN (by assumption) (by decide)) (by decide) | (split <;> omega))))))) | ((with_reducible show wpAny _ _ (exec (PySem.Stmt.For _ (PySem.Expr.Call _ _ _ _) _ _ _) _) _ _ _); first | (with_reducible ((with_reducible rename InTurn => hIT); k_dflt ((with_reducible rename Fr _ _ _ _ => lF'); (with_unfolding_all refine' For_turns lF' ?_; k_whole)))) | ((with_reducible rename InTurn => hIT); k_dflt ((with_reducible rename Fr _ _ _ _ => lF'); (with_unfolding_all refine' For_turns lF' ?_; k_whole)))) | ((with_reducible show wpAny _ _ (call (Value.ref 261) [Value.bytes _ _]) _ _ _); first | (with_reducible (k_dflt (refine' Spec.use (law_number_spec _ _ _ ?ha ?hb _) _ ?k1 ?k2 ?k3 ?k4 ?k5 ?kK ?kd ?ku (led_nil _) (led_self _) (led_none _) ?_); (case ha => omega); (case hb => omega); ((case k1 => first | k_asm | fail "spec: the frames below"); (case k2 => first | k_asm | k_dflt assumption | fail "spec: the frame"); (case k3 => first | k_asm | fail "spec: the written part"); (case k4 => first | k_asm | k_dflt assumption | fail "spec: the ledger"); (case k5 => first | k_asm | fail "spec: the top's facts"); (case kK => first | exact rfl | assumption | fail "spec: the caller is no def"); (case kd => first | (with_reducible exact roomN (by assumption) (by decide)) | ktr_room | fail "spec: room"); (case ku => first | (with_reducible exact roomN (by assumption) (by decide)) | ktr_units | fail "spec: units")); intro r9 h9 tk9 n9 F9 N9 _ R9; obtain ⟨⟨t9, e9⟩, e8⟩ := R9; subst e9; subst e8; (try simp only [List.nil_append, List.cons_append] at N9); (try dsimp only); (try k_fold))) | (k_dflt (refine' Spec.use (law_number_spec _ _ _ ?ha ?hb _) _ ?k1 ?k2 ?k3 ?k4 ?k5 ?kK ?kd ?ku (led_nil _) (led_self _) (led_none _) ?_); (case ha => omega); (case hb => omega); ((case k1 => first | k_asm | fail "spec: the frames below"); (case k2 => first | k_asm | k_dflt assumption | fail "spec: the frame"); (case k3 => first | k_asm | fail "spec: the written part"); (case k4 => first | k_asm | k_dflt assumption | fail "spec: the ledger"); (case k5 => first | k_asm | fail "spec: the top's facts"); (case kK => first | exact rfl | assumption | fail "spec: the caller is no def"); (case kd => first | (with_reducible exact roomN (by assumption) (by decide)) | ktr_room | fail "spec: room"); (case ku => first | (with_reducible exact roomN (by assumption) (by decide)) | ktr_units | fail "spec: units")); intro r9 h9 tk9 n9 F9 N9 _ R9; obtain ⟨⟨t9, e9⟩, e8⟩ := R9; subst e9; subst e8; (try simp only [List.nil_append, List.cons_append] at N9); (try dsimp only); (try k_fold))) | ((with_reducible show wpAny _ _ (call (Value.ref 57) [Value.bytes _ _]) _ _ _); first | (with_reducible (k_dflt (refine' Spec.use (parse_flags_spec _ _ _ _ _ _ ?ha ?hb ?hc ?he) _ ?k1 ?k2 ?k3 ?k4 ?k5 ?kK ?kd ?ku (led_nil _) (led_self _) (led_none _) ?_); (case ha => assumption); (case hb => assumption); (case hc => assumption); (case he => assumption); ((case k1 => first | k_asm | fail "spec: the frames below"); (case k2 => first | k_asm | k_dflt assumption | fail "spec: the frame"); (case k3 => first | k_asm | fail "spec: the written part"); (case k4 => first | k_asm | k_dflt assumption | fail "spec: the ledger"); (case k5 => first | k_asm | fail "spec: the top's facts"); (case kK => first | exact rfl | assumption | fail "spec: the caller is no def"); (case kd => first | (with_reducible exact roomN (by assumption) (by decide)) | ktr_room | fail "spec: room"); (case ku => first | (with_reducible exact roomN (by assumption) (by decide)) | ktr_units | fail "spec: units")); intro r9 h9 tk9 n9 F9 N9 _ R9; obtain ⟨T9, vs9, e9, hb9, e8⟩ := R9; subst e9; subst e8; (try simp only [List.nil_append, List.cons_append] at N9); (try dsimp only); rcases words_cases hb9 with ⟨hz1, hz2, hz3⟩ | ⟨hz1, hz2, t9, hz3⟩ | ⟨hz1, hz2, t9, hz3⟩ | ⟨hz1, hz2, t9, u9, hz3⟩ <;> subst hz3)) | (k_dflt (refine' Spec.use (parse_flags_spec _ _ _ _ _ _ ?ha ?hb ?hc ?he) _ ?k1 ?k2 ?k3 ?k4 ?k5 ?kK ?kd ?ku (led_nil _) (led_self _) (led_none _) ?_); (case ha => assumption); (case hb => assumption); (case hc => assumption); (case he => assumption); ((case k1 => first | k_asm | fail "spec: the frames below"); (case k2 => first | k_asm | k_dflt assumption | fail "spec: the frame"); (case k3 => first | k_asm | fail "spec: the written part"); (case k4 => first | k_asm | k_dflt assumption | fail "spec: the ledger"); (case k5 => first | k_asm | fail "spec: the top's facts"); (case kK => first | exact rfl | assumption | fail "spec: the caller is no def"); (case kd => first | (with_reducible exact roomN (by assumption) (by decide)) | ktr_room | fail "spec: room"); (case ku => first | (with_reducible exact roomN (by assumption) (by decide)) | ktr_units | fail "spec: units")); intro r9 h9 tk9 n9 F9 N9 _ R9; obtain ⟨T9, vs9, e9, hb9, e8⟩ := R9; subst e9; subst e8; (try simp only [List.nil_append, List.cons_append] at N9); (try dsimp only); rcases words_cases hb9 with ⟨hz1, hz2, hz3⟩ | ⟨hz1, hz2, t9, hz3⟩ | ⟨hz1, hz2, t9, hz3⟩ | ⟨hz1, hz2, t9, u9, hz3⟩ <;> subst hz3)) | ((with_reducible show wpAny _ _ (exec (PySem.Stmt.For _ (PySem.Expr.Subscript _ _ _) _ _ _) _) _ _ _); first | (with_reducible (k_dflt ((with_reducible rename Fr _ _ _ _ => lF'); (with_unfolding_all refine' For_invVF lF' ?k1 ?k2 ?_; (case k1 => exact rfl); (case k2 => exact rfl); k_whole)))) | (k_dflt ((with_reducible rename Fr _ _ _ _ => lF'); (with_unfolding_all refine' For_invVF lF' ?k1 ?k2 ?_; (case k1 => exact rfl); (case k2 => exact rfl); k_whole)))) | ((with_reducible show wpAny _ _ (exec (PySem.Stmt.For _ (PySem.Expr.Call _ _ _ _) _ _ _) _) _ _ _); first | (with_reducible ((fail_if_success (with_reducible rename InTurn => hIT)); refine halt ?_)) | ((fail_if_success (with_reducible rename InTurn => hIT)); refine halt ?_)) | ((with_reducible show wpAny _ _ (call (Value.ref 78) [Value.bytes _ _, Value.int _ _]) _ _ _); first | (with_reducible (k_dflt (refine' SpecK.use (count_dots_spec _ _ _ _ ?ha ?hb) _ ?k1 ?k2 ?k3 ?k4 ?k5 ?kK ?kd ?ku (led_nil _) (led_self _) (led_none _) ?_); (case ha => (first | (with_reducible first | exact tuL (by assumption) (by decide) | exact tuI (by assumption) (by decide) | exact tuJ (by assumption) (by decide) | exact Nat.zero_le _) | omega)); (case hb => (refine Nat.ne_of_gt ?_; (show (0 : Nat) < (_ : Nat)); first | exact posK (by assumption) (by assumption) | omega)); ((case k1 => first | k_asm | fail "spec: the frames below"); (case k2 => first | k_asm | k_dflt assumption | fail "spec: the frame"); (case k3 => first | k_asm | fail "spec: the written part"); (case k4 => first | k_asm | k_dflt assumption | fail "spec: the ledger"); (case k5 => first | k_asm | fail "spec: the top's facts"); (case kK => first | exact rfl | assumption | fail "spec: the caller is no def"); (case kd => first | (with_reducible exact roomN (by assumption) (by decide)) | ktr_room | fail "spec: room"); (case ku => first | (with_reducible exact roomN (by assumption) (by decide)) | ktr_units | fail "spec: units")); intro r9 h9 tk9 n9 F9 N9 _ hk9 R9; (try dsimp only at hk9); obtain ⟨⟨t9, e9, p9, q9⟩, e8⟩ := R9; subst e9; subst e8; (try simp only [List.nil_append, List.cons_append] at N9); (try dsimp only); (try k_fold))) | (k_dflt (refine' SpecK.use (count_dots_spec _ _ _ _ ?ha ?hb) _ ?k1 ?k2 ?k3 ?k4 ?k5 ?kK ?kd ?ku (led_nil _) (led_self _) (led_none _) ?_); (case ha => (first | (with_reducible first | exact tuL (by assumption) (by decide) | exact tuI (by assumption) (by decide) | exact tuJ (by assumption) (by decide) | exact Nat.zero_le _) | omega)); (case hb => (refine Nat.ne_of_gt ?_; (show (0 : Nat) < (_ : Nat)); first | exact posK (by assumption) (by assumption) | omega)); ((case k1 => first | k_asm | fail "spec: the frames below"); (case k2 => first | k_asm | k_dflt assumption | fail "spec: the frame"); (case k3 => first | k_asm | fail "spec: the written part"); (case k4 => first | k_asm | k_dflt assumption | fail "spec: the ledger"); (case k5 => first | k_asm | fail "spec: the top's facts"); (case kK => first | exact rfl | assumption | fail "spec: the caller is no def"); (case kd => first | (with_reducible exact roomN (by assumption) (by decide)) | ktr_room | fail "spec: room"); (case ku => first | (with_reducible exact roomN (by assumption) (by decide)) | ktr_units | fail "spec: units")); intro r9 h9 tk9 n9 F9 N9 _ hk9 R9; (try dsimp only at hk9); obtain ⟨⟨t9, e9, p9, q9⟩, e8⟩ := R9; subst e9; subst e8; (try simp only [List.nil_append, List.cons_append] at N9); (try dsimp only); (try k_fold))) | ((with_reducible show wpAny _ _ (subscriptTail _ (Expr.Slice _ _ none _) (Value.bytes _ _) (Value.ref _)) _ _ _); first | (with_reducible ((with_reducible rename Fr _ _ _ _ => F'); (with_reducible rename News _ _ _ _ => N'); (refine wpAny_toks' (slice_any (s := ⟨_, _, _, _, _⟩) F' N' (by constructor) (by constructor) (by rw [BB_size]; exact Nat.le_trans (row_len (by (first | (with_reducible first | exact tuL (by assumption) (by decide) | exact tuI (by assumption) (by decide) | exact tuJ (by assumption) (by decide) | exact Nat.zero_le _) | omega)) (cell_len _)) (by decide)) ?_)); intro h' t' k' F' N' hk'; (try dsimp only at hk'); rw [slice_dots])) | ((with_reducible rename Fr _ _ _ _ => F'); (with_reducible rename News _ _ _ _ => N'); (refine wpAny_toks' (slice_any (s := ⟨_, _, _, _, _⟩) F' N' (by constructor) (by constructor) (by rw [BB_size]; exact Nat.le_trans (row_len (by (first | (with_reducible first | exact tuL (by assumption) (by decide) | exact tuI (by assumption) (by decide) | exact tuJ (by assumption) (by decide) | exact Nat.zero_le _) | omega)) (cell_len _)) (by decide)) ?_)); intro h' t' k' F' N' hk'; (try dsimp only at hk'); rw [slice_dots])) | ((with_reducible show wpAny _ _ (call (Value.builtin "bytes.index") _ _) _ _ _); first | (with_reducible (k_dflt (refine wpAny_toks' (index_t (cell_signs _) ?_)); intro t' k' hk'; (try dsimp only at hk'))) | (k_dflt (refine wpAny_toks' (index_t (cell_signs _) ?_)); intro t' k' hk'; (try dsimp only at hk'))) | ((with_reducible show wpAny _ _ (call (Value.builtin "bytes.split") _ _) _ _ _); first | (with_reducible (k_dflt (refine' split_page ?j1 ?j2 ?a1 ?a2 ?a3 ?b1 ?b2 ?b3 ?b4 ?c1 ?c2 ?c3 ?c4 ?_; (case j1 => k_asm); (case j2 => k_asm); (case a1 => (first | (with_reducible first | exact tuL (by assumption) (by decide) | exact tuI (by assumption) (by decide) | exact tuJ (by assumption) (by decide) | exact Nat.zero_le _) | omega)); (case a2 => (first | (with_reducible first | exact tuL (by assumption) (by decide) | exact tuI (by assumption) (by decide) | exact tuJ (by assumption) (by decide) | exact Nat.zero_le _) | omega)); (case a3 => (first | (with_reducible first | exact tuL (by assumption) (by decide) | exact tuI (by assumption) (by decide) | exact tuJ (by assumption) (by decide) | exact Nat.zero_le _) | omega)); (case b1 => exact cell_len _); (case b2 => exact cell_len _); (case b3 => exact cell_len _); (case b4 => exact cell_len _); (case c1 => exact cell_signs _); (case c2 => exact cell_signs _); (case c3 => exact cell_signs _); (case c4 => exact cell_signs _)); intro h' a' t2' t0' t3' t1' t4' t5' k' l1 F' N'; (try k_lt l1))) | (k_dflt (refine' split_page ?j1 ?j2 ?a1 ?a2 ?a3 ?b1 ?b2 ?b3 ?b4 ?c1 ?c2 ?c3 ?c4 ?_; (case j1 => k_asm); (case j2 => k_asm); (case a1 => (first | (with_reducible first | exact tuL (by assumption) (by decide) | exact tuI (by assumption) (by decide) | exact tuJ (by assumption) (by decide) | exact Nat.zero_le _) | omega)); (case a2 => (first | (with_reducible first | exact tuL (by assumption) (by decide) | exact tuI (by assumption) (by decide) | exact tuJ (by assumption) (by decide) | exact Nat.zero_le _) | omega)); (case a3 => (first | (with_reducible first | exact tuL (by assumption) (by decide) | exact tuI (by assumption) (by decide) | exact tuJ (by assumption) (by decide) | exact Nat.zero_le _) | omega)); (case b1 => exact cell_len _); (case b2 => exact cell_len _); (case b3 => exact cell_len _); (case b4 => exact cell_len _); (case c1 => exact cell_signs _); (case c2 => exact cell_signs _); (case c3 => exact cell_signs _); (case c4 => exact cell_signs _)); intro h' a' t2' t0' t3' t1' t4' t5' k' l1 F' N'; (try k_lt l1))) | ((with_reducible show wpAny _ _ (getMethod _ _ _) _ _ _); first | (with_reducible ((with_reducible first   | (show wpAny _ _ (getMethod (Value.bytes _ _) (Str.ofString "split") _) _ _ _; refine method_split ?_)   | (show wpAny _ _ (getMethod (Value.bytes _ _) (Str.ofString "index") _) _ _ _; refine method_index ?_)))) | ((with_reducible first   | (show wpAny _ _ (getMethod (Value.bytes _ _) (Str.ofString "split") _) _ _ _; refine method_split ?_)   | (show wpAny _ _ (getMethod (Value.bytes _ _) (Str.ofString "index") _) _ _ _; refine method_index ?_)))) | (have hz9 : NoHalt := ⟨⟩; walk1; all_goals (try clear hz9))) | (k_unfold; (try dsimp only)) | (k_end; wrow_close) | walk1 | (dsimp only; walk1) | (leave1; walk_say "STEP leave1"; try dsimp only) | fail "no step"))
    unfold Halt
    (with_reducible rename News _ _ _ (_ :: _) => NN)
    refine' turn _ _ _ _ _ _ _ _ _ _ _ _ _ _ _ ?hd ?hm1 ?hm2 ?hF NN ?_
    case hF => k_asm
    case hm1 => exact rfl
    case hm2 => exact rfl
    case hd => omega
    intro h9 tk9 mB uB F9 N9 sB iB
    have eB1 : mB (Str.ofString "told") = some _ := mtrans sB (by decide) (by decide) eA1
    have eB2 : mB (Str.ofString "turns") = some _ := mtrans sB (by decide) (by decide) eA2
    have eB3 : mB (Str.ofString "dots") = some _ := mtrans sB (by decide) (by decide) rfl
    (try dsimp only)
    (try k_fold)
    (repeat' (first | (unfold Hold; first | ((with_reducible show wpAny _ _ (setItem (Value.ref _) (Value.int (ite _ _ _) _) _) _ _ _); first | (with_reducible (k_dflt (first   | ((refine' setItem_at (j := 0) ?hk0 ?_); (case hk0 => (first | exact ite0 (tuN (by assumption) (by decide)) (by decide) | (split <;> omega))))   | ((refine' setItem_at (j := 1) ?hk1 ?_); (case hk1 => (first | exact ite0 (tuN (by assumption) (by decide)) (by decide) | (split <;> omega))))   | ((refine' setItem_at (j := 2) ?hk2 ?_); (case hk2 => (first | exact ite0 (tuN (by assumption) (by decide)) (by decide) | (split <;> omega))))   | ((refine' setItem_at (j := 3) ?hk3 ?_); (case hk3 => (first | exact ite0 (tuN (by assumption) (by decide)) (by decide) | (split <;> omega))))))) | (k_dflt (first   | ((refine' setItem_at (j := 0) ?hk0 ?_); (case hk0 => (first | exact ite0 (tuN (by assumption) (by decide)) (by decide) | (split <;> omega))))   | ((refine' setItem_at (j := 1) ?hk1 ?_); (case hk1 => (first | exact ite0 (tuN (by assumption) (by decide)) (by decide) | (split <;> omega))))   | ((refine' setItem_at (j := 2) ?hk2 ?_); (case hk2 => (first | exact ite0 (tuN (by assumption) (by decide)) (by decide) | (split <;> omega))))   | ((refine' setItem_at (j := 3) ?hk3 ?_); (case hk3 => (first | exact ite0 (tuN (by assumption) (by decide)) (by decide) | (split <;> omega))))))) | ((with_reducible show wpAny _ _ (exec (PySem.Stmt.For _ (PySem.Expr.Call _ _ _ _) _ _ _) _) _ _ _); first | (with_reducible ((with_reducible rename InTurn => hIT); k_dflt ((with_reducible rename Fr _ _ _ _ => lF'); (with_unfolding_all refine' For_turns lF' ?_; k_whole)))) | ((with_reducible rename InTurn => hIT); k_dflt ((with_reducible rename Fr _ _ _ _ => lF'); (with_unfolding_all refine' For_turns lF' ?_; k_whole)))) | ((with_reducible show wpAny _ _ (call (Value.ref 261) [Value.bytes _ _]) _ _ _); first | (with_reducible (k_dflt (refine' Spec.use (law_number_spec _ _ _ ?ha ?hb _) _ ?k1 ?k2 ?k3 ?k4 ?k5 ?kK ?kd ?ku (led_nil _) (led_self _) (led_none _) ?_); (case ha => omega); (case hb => omega); ((case k1 => first | k_asm | fail "spec: the frames below"); (case k2 => first | k_asm | k_dflt assumption | fail "spec: the frame"); (case k3 => first | k_asm | fail "spec: the written part"); (case k4 => first | k_asm | k_dflt assumption | fail "spec: the ledger"); (case k5 => first | k_asm | fail "spec: the top's facts"); (case kK => first | exact rfl | assumption | fail "spec: the caller is no def"); (case kd => first | (with_reducible exact roomN (by assumption) (by decide)) | ktr_room | fail "spec: room"); (case ku => first | (with_reducible exact roomN (by assumption) (by decide)) | ktr_units | fail "spec: units")); intro r9 h9 tk9 n9 F9 N9 _ R9; obtain ⟨⟨t9, e9⟩, e8⟩ := R9; subst e9; subst e8; (try simp only [List.nil_append, List.cons_append] at N9); (try dsimp only); (try k_fold))) | (k_dflt (refine' Spec.use (law_number_spec _ _ _ ?ha ?hb _) _ ?k1 ?k2 ?k3 ?k4 ?k5 ?kK ?kd ?ku (led_nil _) (led_self _) (led_none _) ?_); (case ha => omega); (case hb => omega); ((case k1 => first | k_asm | fail "spec: the frames below"); (case k2 => first | k_asm | k_dflt assumption | fail "spec: the frame"); (case k3 => first | k_asm | fail "spec: the written part"); (case k4 => first | k_asm | k_dflt assumption | fail "spec: the ledger"); (case k5 => first | k_asm | fail "spec: the top's facts"); (case kK => first | exact rfl | assumption | fail "spec: the caller is no def"); (case kd => first | (with_reducible exact roomN (by assumption) (by decide)) | ktr_room | fail "spec: room"); (case ku => first | (with_reducible exact roomN (by assumption) (by decide)) | ktr_units | fail "spec: units")); intro r9 h9 tk9 n9 F9 N9 _ R9; obtain ⟨⟨t9, e9⟩, e8⟩ := R9; subst e9; subst e8; (try simp only [List.nil_append, List.cons_append] at N9); (try dsimp only); (try k_fold))) | ((with_reducible show wpAny _ _ (call (Value.ref 57) [Value.bytes _ _]) _ _ _); first | (with_reducible (k_dflt (refine' Spec.use (parse_flags_spec _ _ _ _ _ _ ?ha ?hb ?hc ?he) _ ?k1 ?k2 ?k3 ?k4 ?k5 ?kK ?kd ?ku (led_nil _) (led_self _) (led_none _) ?_); (case ha => assumption); (case hb => assumption); (case hc => assumption); (case he => assumption); ((case k1 => first | k_asm | fail "spec: the frames below"); (case k2 => first | k_asm | k_dflt assumption | fail "spec: the frame"); (case k3 => first | k_asm | fail "spec: the written part"); (case k4 => first | k_asm | k_dflt assumption | fail "spec: the ledger"); (case k5 => first | k_asm | fail "spec: the top's facts"); (case kK => first | exact rfl | assumption | fail "spec: the caller is no def"); (case kd => first | (with_reducible exact roomN (by assumption) (by decide)) | ktr_room | fail "spec: room"); (case ku => first | (with_reducible exact roomN (by assumption) (by decide)) | ktr_units | fail "spec: units")); intro r9 h9 tk9 n9 F9 N9 _ R9; obtain ⟨T9, vs9, e9, hb9, e8⟩ := R9; subst e9; subst e8; (try simp only [List.nil_append, List.cons_append] at N9); (try dsimp only); rcases words_cases hb9 with ⟨hz1, hz2, hz3⟩ | ⟨hz1, hz2, t9, hz3⟩ | ⟨hz1, hz2, t9, hz3⟩ | ⟨hz1, hz2, t9, u9, hz3⟩ <;> subst hz3)) | (k_dflt (refine' Spec.use (parse_flags_spec _ _ _ _ _ _ ?ha ?hb ?hc ?he) _ ?k1 ?k2 ?k3 ?k4 ?k5 ?kK ?kd ?ku (led_nil _) (led_self _) (led_none _) ?_); (case ha => assumption); (case hb => assumption); (case hc => assumption); (case he => assumption); ((case k1 => first | k_asm | fail "spec: the frames below"); (case k2 => first | k_asm | k_dflt assumption | fail "spec: the frame"); (case k3 => first | k_asm | fail "spec: the written part"); (case k4 => first | k_asm | k_dflt assumption | fail "spec: the ledger"); (case k5 => first | k_asm | fail "spec: the top's facts"); (case kK => first | exact rfl | assumption | fail "spec: the caller is no def"); (case kd => first | (with_reducible exact roomN (by assumption) (by decide)) | ktr_room | fail "spec: room"); (case ku => first | (with_reducible exact roomN (by assumption) (by decide)) | ktr_units | fail "spec: units")); intro r9 h9 tk9 n9 F9 N9 _ R9; obtain ⟨T9, vs9, e9, hb9, e8⟩ := R9; subst e9; subst e8; (try simp only [List.nil_append, List.cons_append] at N9); (try dsimp only); rcases words_cases hb9 with ⟨hz1, hz2, hz3⟩ | ⟨hz1, hz2, t9, hz3⟩ | ⟨hz1, hz2, t9, hz3⟩ | ⟨hz1, hz2, t9, u9, hz3⟩ <;> subst hz3)) | ((with_reducible show wpAny _ _ (exec (PySem.Stmt.For _ (PySem.Expr.Subscript _ _ _) _ _ _) _) _ _ _); first | (with_reducible (k_dflt ((with_reducible rename Fr _ _ _ _ => lF'); (with_unfolding_all refine' For_invVF lF' ?k1 ?k2 ?_; (case k1 => exact rfl); (case k2 => exact rfl); k_whole)))) | (k_dflt ((with_reducible rename Fr _ _ _ _ => lF'); (with_unfolding_all refine' For_invVF lF' ?k1 ?k2 ?_; (case k1 => exact rfl); (case k2 => exact rfl); k_whole)))) | ((with_reducible show wpAny _ _ (exec (PySem.Stmt.For _ (PySem.Expr.Call _ _ _ _) _ _ _) _) _ _ _); first | (with_reducible ((fail_if_success (with_reducible rename InTurn => hIT)); refine halt ?_)) | ((fail_if_success (with_reducible rename InTurn => hIT)); refine halt ?_)) | ((with_reducible show wpAny _ _ (call (Value.ref 78) [Value.bytes _ _, Value.int _ _]) _ _ _); first | (with_reducible (k_dflt (refine' SpecK.use (count_dots_spec _ _ _ _ ?ha ?hb) _ ?k1 ?k2 ?k3 ?k4 ?k5 ?kK ?kd ?ku (led_nil _) (led_self _) (led_none _) ?_); (case ha => (first | (with_reducible first | exact tuL (by assumption) (by decide) | exact tuI (by assumption) (by decide) | exact tuJ (by assumption) (by decide) | exact Nat.zero_le _) | omega)); (case hb => (refine Nat.ne_of_gt ?_; (show (0 : Nat) < (_ : Nat)); first | exact posK (by assumption) (by assumption) | omega)); ((case k1 => first | k_asm | fail "spec: the frames below"); (case k2 => first | k_asm | k_dflt assumption | fail "spec: the frame"); (case k3 => first | k_asm | fail "spec: the written part"); (case k4 => first | k_asm | k_dflt assumption | fail "spec: the ledger"); (case k5 => first | k_asm | fail "spec: the top's facts"); (case kK => first | exact rfl | assumption | fail "spec: the caller is no def"); (case kd => first | (with_reducible exact roomN (by assumption) (by decide)) | ktr_room | fail "spec: room"); (case ku => first | (with_reducible exact roomN (by assumption) (by decide)) | ktr_units | fail "spec: units")); intro r9 h9 tk9 n9 F9 N9 _ hk9 R9; (try dsimp only at hk9); obtain ⟨⟨t9, e9, p9, q9⟩, e8⟩ := R9; subst e9; subst e8; (try simp only [List.nil_append, List.cons_append] at N9); (try dsimp only); (try k_fold))) | (k_dflt (refine' SpecK.use (count_dots_spec _ _ _ _ ?ha ?hb) _ ?k1 ?k2 ?k3 ?k4 ?k5 ?kK ?kd ?ku (led_nil _) (led_self _) (led_none _) ?_); (case ha => (first | (with_reducible first | exact tuL (by assumption) (by decide) | exact tuI (by assumption) (by decide) | exact tuJ (by assumption) (by decide) | exact Nat.zero_le _) | omega)); (case hb => (refine Nat.ne_of_gt ?_; (show (0 : Nat) < (_ : Nat)); first | exact posK (by assumption) (by assumption) | omega)); ((case k1 => first | k_asm | fail "spec: the frames below"); (case k2 => first | k_asm | k_dflt assumption | fail "spec: the frame"); (case k3 => first | k_asm | fail "spec: the written part"); (case k4 => first | k_asm | k_dflt assumption | fail "spec: the ledger"); (case k5 => first | k_asm | fail "spec: the top's facts"); (case kK => first | exact rfl | assumption | fail "spec: the caller is no def"); (case kd => first | (with_reducible exact roomN (by assumption) (by decide)) | ktr_room | fail "spec: room"); (case ku => first | (with_reducible exact roomN (by assumption) (by decide)) | ktr_units | fail "spec: units")); intro r9 h9 tk9 n9 F9 N9 _ hk9 R9; (try dsimp only at hk9); obtain ⟨⟨t9, e9, p9, q9⟩, e8⟩ := R9; subst e9; subst e8; (try simp only [List.nil_append, List.cons_append] at N9); (try dsimp only); (try k_fold))) | ((with_reducible show wpAny _ _ (subscriptTail _ (Expr.Slice _ _ none _) (Value.bytes _ _) (Value.ref _)) _ _ _); first | (with_reducible ((with_reducible rename Fr _ _ _ _ => F'); (with_reducible rename News _ _ _ _ => N'); (refine wpAny_toks' (slice_any (s := ⟨_, _, _, _, _⟩) F' N' (by constructor) (by constructor) (by rw [BB_size]; exact Nat.le_trans (row_len (by (first | (with_reducible first | exact tuL (by assumption) (by decide) | exact tuI (by assumption) (by decide) | exact tuJ (by assumption) (by decide) | exact Nat.zero_le _) | omega)) (cell_len _)) (by decide)) ?_)); intro h' t' k' F' N' hk'; (try dsimp only at hk'); rw [slice_dots])) | ((with_reducible rename Fr _ _ _ _ => F'); (with_reducible rename News _ _ _ _ => N'); (refine wpAny_toks' (slice_any (s := ⟨_, _, _, _, _⟩) F' N' (by constructor) (by constructor) (by rw [BB_size]; exact Nat.le_trans (row_len (by (first | (with_reducible first | exact tuL (by assumption) (by decide) | exact tuI (by assumption) (by decide) | exact tuJ (by assumption) (by decide) | exact Nat.zero_le _) | omega)) (cell_len _)) (by decide)) ?_)); intro h' t' k' F' N' hk'; (try dsimp only at hk'); rw [slice_dots])) | ((with_reducible show wpAny _ _ (call (Value.builtin "bytes.index") _ _) _ _ _); first | (with_reducible (k_dflt (refine wpAny_toks' (index_t (cell_signs _) ?_)); intro t' k' hk'; (try dsimp only at hk'))) | (k_dflt (refine wpAny_toks' (index_t (cell_signs _) ?_)); intro t' k' hk'; (try dsimp only at hk'))) | ((with_reducible show wpAny _ _ (call (Value.builtin "bytes.split") _ _) _ _ _); first | (with_reducible (k_dflt (refine' split_page ?j1 ?j2 ?a1 ?a2 ?a3 ?b1 ?b2 ?b3 ?b4 ?c1 ?c2 ?c3 ?c4 ?_; (case j1 => k_asm); (case j2 => k_asm); (case a1 => (first | (with_reducible first | exact tuL (by assumption) (by decide) | exact tuI (by assumption) (by decide) | exact tuJ (by assumption) (by decide) | exact Nat.zero_le _) | omega)); (case a2 => (first | (with_reducible first | exact tuL (by assumption) (by decide) | exact tuI (by assumption) (by decide) | exact tuJ (by assumption) (by decide) | exact Nat.zero_le _) | omega)); (case a3 => (first | (with_reducible first | exact tuL (by assumption) (by decide) | exact tuI (by assumption) (by decide) | exact tuJ (by assumption) (by decide) | exact Nat.zero_le _) | omega)); (case b1 => exact cell_len _); (case b2 => exact cell_len _); (case b3 => exact cell_len _); (case b4 => exact cell_len _); (case c1 => exact cell_signs _); (case c2 => exact cell_signs _); (case c3 => exact cell_signs _); (case c4 => exact cell_signs _)); intro h' a' t2' t0' t3' t1' t4' t5' k' l1 F' N'; (try k_lt l1))) | (k_dflt (refine' split_page ?j1 ?j2 ?a1 ?a2 ?a3 ?b1 ?b2 ?b3 ?b4 ?c1 ?c2 ?c3 ?c4 ?_; (case j1 => k_asm); (case j2 => k_asm); (case a1 => (first | (with_reducible first | exact tuL (by assumption) (by decide) | exact tuI (by assumption) (by decide) | exact tuJ (by assumption) (by decide) | exact Nat.zero_le _) | omega)); (case a2 => (first | (with_reducible first | exact tuL (by assumption) (by decide) | exact tuI (by assumption) (by decide) | exact tuJ (by assumption) (by decide) | exact Nat.zero_le _) | omega)); (case a3 => (first | (with_reducible first | exact tuL (by assumption) (by decide) | exact tuI (by assumption) (by decide) | exact tuJ (by assumption) (by decide) | exact Nat.zero_le _) | omega)); (case b1 => exact cell_len _); (case b2 => exact cell_len _); (case b3 => exact cell_len _); (case b4 => exact cell_len _); (case c1 => exact cell_signs _); (case c2 => exact cell_signs _); (case c3 => exact cell_signs _); (case c4 => exact cell_signs _)); intro h' a' t2' t0' t3' t1' t4' t5' k' l1 F' N'; (try k_lt l1))) | ((with_reducible show wpAny _ _ (getMethod _ _ _) _ _ _); first | (with_reducible ((with_reducible first   | (show wpAny _ _ (getMethod (Value.bytes _ _) (Str.ofString "split") _) _ _ _; refine method_split ?_)   | (show wpAny _ _ (getMethod (Value.bytes _ _) (Str.ofString "index") _) _ _ _; refine method_index ?_)))) | ((with_reducible first   | (show wpAny _ _ (getMethod (Value.bytes _ _) (Str.ofString "split") _) _ _ _; refine method_split ?_)   | (show wpAny _ _ (getMethod (Value.bytes _ _) (Str.ofString "index") _) _ _ _; refine method_index ?_)))) | (have hz9 : NoHalt := ⟨⟩; walk1; all_goals (try clear hz9))) | (k_unfold; (try dsimp only)) | (k_end; wrow_close) | walk1 | (dsimp only; walk1) | (leave1; walk_say "STEP leave1"; try dsimp only) | fail "no step"))
    unfold Halt
    (with_reducible rename News _ _ _ (_ :: _) => NN)
    refine' turn _ _ _ _ _ _ _ _ _ _ _ _ _ _ _ ?hd ?hm1 ?hm2 ?hF NN ?_
    case hF => k_asm
    case hm1 => exact rfl
    case hm2 => exact rfl
    case hd => omega
    intro h9 tk9 mC uC F9 N9 sC iC
    have eC1 : mC (Str.ofString "told") = some _ := mtrans sC (by decide) (by decide) eB1
    have eC2 : mC (Str.ofString "turns") = some _ := mtrans sC (by decide) (by decide) eB2
    have eC3 : mC (Str.ofString "dots") = some _ := mtrans sC (by decide) (by decide) rfl
    (try dsimp only)
    (try k_fold)
    (repeat' (first | (unfold Hold; first | ((with_reducible show wpAny _ _ (setItem (Value.ref _) (Value.int (ite _ _ _) _) _) _ _ _); first | (with_reducible (k_dflt (first   | ((refine' setItem_at (j := 0) ?hk0 ?_); (case hk0 => (first | exact ite0 (tuN (by assumption) (by decide)) (by decide) | (split <;> omega))))   | ((refine' setItem_at (j := 1) ?hk1 ?_); (case hk1 => (first | exact ite0 (tuN (by assumption) (by decide)) (by decide) | (split <;> omega))))   | ((refine' setItem_at (j := 2) ?hk2 ?_); (case hk2 => (first | exact ite0 (tuN (by assumption) (by decide)) (by decide) | (split <;> omega))))   | ((refine' setItem_at (j := 3) ?hk3 ?_); (case hk3 => (first | exact ite0 (tuN (by assumption) (by decide)) (by decide) | (split <;> omega))))))) | (k_dflt (first   | ((refine' setItem_at (j := 0) ?hk0 ?_); (case hk0 => (first | exact ite0 (tuN (by assumption) (by decide)) (by decide) | (split <;> omega))))   | ((refine' setItem_at (j := 1) ?hk1 ?_); (case hk1 => (first | exact ite0 (tuN (by assumption) (by decide)) (by decide) | (split <;> omega))))   | ((refine' setItem_at (j := 2) ?hk2 ?_); (case hk2 => (first | exact ite0 (tuN (by assumption) (by decide)) (by decide) | (split <;> omega))))   | ((refine' setItem_at (j := 3) ?hk3 ?_); (case hk3 => (first | exact ite0 (tuN (by assumption) (by decide)) (by decide) | (split <;> omega))))))) | ((with_reducible show wpAny _ _ (exec (PySem.Stmt.For _ (PySem.Expr.Call _ _ _ _) _ _ _) _) _ _ _); first | (with_reducible ((with_reducible rename InTurn => hIT); k_dflt ((with_reducible rename Fr _ _ _ _ => lF'); (with_unfolding_all refine' For_turns lF' ?_; k_whole)))) | ((with_reducible rename InTurn => hIT); k_dflt ((with_reducible rename Fr _ _ _ _ => lF'); (with_unfolding_all refine' For_turns lF' ?_; k_whole)))) | ((with_reducible show wpAny _ _ (call (Value.ref 261) [Value.bytes _ _]) _ _ _); first | (with_reducible (k_dflt (refine' Spec.use (law_number_spec _ _ _ ?ha ?hb _) _ ?k1 ?k2 ?k3 ?k4 ?k5 ?kK ?kd ?ku (led_nil _) (led_self _) (led_none _) ?_); (case ha => omega); (case hb => omega); ((case k1 => first | k_asm | fail "spec: the frames below"); (case k2 => first | k_asm | k_dflt assumption | fail "spec: the frame"); (case k3 => first | k_asm | fail "spec: the written part"); (case k4 => first | k_asm | k_dflt assumption | fail "spec: the ledger"); (case k5 => first | k_asm | fail "spec: the top's facts"); (case kK => first | exact rfl | assumption | fail "spec: the caller is no def"); (case kd => first | (with_reducible exact roomN (by assumption) (by decide)) | ktr_room | fail "spec: room"); (case ku => first | (with_reducible exact roomN (by assumption) (by decide)) | ktr_units | fail "spec: units")); intro r9 h9 tk9 n9 F9 N9 _ R9; obtain ⟨⟨t9, e9⟩, e8⟩ := R9; subst e9; subst e8; (try simp only [List.nil_append, List.cons_append] at N9); (try dsimp only); (try k_fold))) | (k_dflt (refine' Spec.use (law_number_spec _ _ _ ?ha ?hb _) _ ?k1 ?k2 ?k3 ?k4 ?k5 ?kK ?kd ?ku (led_nil _) (led_self _) (led_none _) ?_); (case ha => omega); (case hb => omega); ((case k1 => first | k_asm | fail "spec: the frames below"); (case k2 => first | k_asm | k_dflt assumption | fail "spec: the frame"); (case k3 => first | k_asm | fail "spec: the written part"); (case k4 => first | k_asm | k_dflt assumption | fail "spec: the ledger"); (case k5 => first | k_asm | fail "spec: the top's facts"); (case kK => first | exact rfl | assumption | fail "spec: the caller is no def"); (case kd => first | (with_reducible exact roomN (by assumption) (by decide)) | ktr_room | fail "spec: room"); (case ku => first | (with_reducible exact roomN (by assumption) (by decide)) | ktr_units | fail "spec: units")); intro r9 h9 tk9 n9 F9 N9 _ R9; obtain ⟨⟨t9, e9⟩, e8⟩ := R9; subst e9; subst e8; (try simp only [List.nil_append, List.cons_append] at N9); (try dsimp only); (try k_fold))) | ((with_reducible show wpAny _ _ (call (Value.ref 57) [Value.bytes _ _]) _ _ _); first | (with_reducible (k_dflt (refine' Spec.use (parse_flags_spec _ _ _ _ _ _ ?ha ?hb ?hc ?he) _ ?k1 ?k2 ?k3 ?k4 ?k5 ?kK ?kd ?ku (led_nil _) (led_self _) (led_none _) ?_); (case ha => assumption); (case hb => assumption); (case hc => assumption); (case he => assumption); ((case k1 => first | k_asm | fail "spec: the frames below"); (case k2 => first | k_asm | k_dflt assumption | fail "spec: the frame"); (case k3 => first | k_asm | fail "spec: the written part"); (case k4 => first | k_asm | k_dflt assumption | fail "spec: the ledger"); (case k5 => first | k_asm | fail "spec: the top's facts"); (case kK => first | exact rfl | assumption | fail "spec: the caller is no def"); (case kd => first | (with_reducible exact roomN (by assumption) (by decide)) | ktr_room | fail "spec: room"); (case ku => first | (with_reducible exact roomN (by assumption) (by decide)) | ktr_units | fail "spec: units")); intro r9 h9 tk9 n9 F9 N9 _ R9; obtain ⟨T9, vs9, e9, hb9, e8⟩ := R9; subst e9; subst e8; (try simp only [List.nil_append, List.cons_append] at N9); (try dsimp only); rcases words_cases hb9 with ⟨hz1, hz2, hz3⟩ | ⟨hz1, hz2, t9, hz3⟩ | ⟨hz1, hz2, t9, hz3⟩ | ⟨hz1, hz2, t9, u9, hz3⟩ <;> subst hz3)) | (k_dflt (refine' Spec.use (parse_flags_spec _ _ _ _ _ _ ?ha ?hb ?hc ?he) _ ?k1 ?k2 ?k3 ?k4 ?k5 ?kK ?kd ?ku (led_nil _) (led_self _) (led_none _) ?_); (case ha => assumption); (case hb => assumption); (case hc => assumption); (case he => assumption); ((case k1 => first | k_asm | fail "spec: the frames below"); (case k2 => first | k_asm | k_dflt assumption | fail "spec: the frame"); (case k3 => first | k_asm | fail "spec: the written part"); (case k4 => first | k_asm | k_dflt assumption | fail "spec: the ledger"); (case k5 => first | k_asm | fail "spec: the top's facts"); (case kK => first | exact rfl | assumption | fail "spec: the caller is no def"); (case kd => first | (with_reducible exact roomN (by assumption) (by decide)) | ktr_room | fail "spec: room"); (case ku => first | (with_reducible exact roomN (by assumption) (by decide)) | ktr_units | fail "spec: units")); intro r9 h9 tk9 n9 F9 N9 _ R9; obtain ⟨T9, vs9, e9, hb9, e8⟩ := R9; subst e9; subst e8; (try simp only [List.nil_append, List.cons_append] at N9); (try dsimp only); rcases words_cases hb9 with ⟨hz1, hz2, hz3⟩ | ⟨hz1, hz2, t9, hz3⟩ | ⟨hz1, hz2, t9, hz3⟩ | ⟨hz1, hz2, t9, u9, hz3⟩ <;> subst hz3)) | ((with_reducible show wpAny _ _ (exec (PySem.Stmt.For _ (PySem.Expr.Subscript _ _ _) _ _ _) _) _ _ _); first | (with_reducible (k_dflt ((with_reducible rename Fr _ _ _ _ => lF'); (with_unfolding_all refine' For_invVF lF' ?k1 ?k2 ?_; (case k1 => exact rfl); (case k2 => exact rfl); k_whole)))) | (k_dflt ((with_reducible rename Fr _ _ _ _ => lF'); (with_unfolding_all refine' For_invVF lF' ?k1 ?k2 ?_; (case k1 => exact rfl); (case k2 => exact rfl); k_whole)))) | ((with_reducible show wpAny _ _ (exec (PySem.Stmt.For _ (PySem.Expr.Call _ _ _ _) _ _ _) _) _ _ _); first | (with_reducible ((fail_if_success (with_reducible rename InTurn => hIT)); refine halt ?_)) | ((fail_if_success (with_reducible rename InTurn => hIT)); refine halt ?_)) | ((with_reducible show wpAny _ _ (call (Value.ref 78) [Value.bytes _ _, Value.int _ _]) _ _ _); first | (with_reducible (k_dflt (refine' SpecK.use (count_dots_spec _ _ _ _ ?ha ?hb) _ ?k1 ?k2 ?k3 ?k4 ?k5 ?kK ?kd ?ku (led_nil _) (led_self _) (led_none _) ?_); (case ha => (first | (with_reducible first | exact tuL (by assumption) (by decide) | exact tuI (by assumption) (by decide) | exact tuJ (by assumption) (by decide) | exact Nat.zero_le _) | omega)); (case hb => (refine Nat.ne_of_gt ?_; (show (0 : Nat) < (_ : Nat)); first | exact posK (by assumption) (by assumption) | omega)); ((case k1 => first | k_asm | fail "spec: the frames below"); (case k2 => first | k_asm | k_dflt assumption | fail "spec: the frame"); (case k3 => first | k_asm | fail "spec: the written part"); (case k4 => first | k_asm | k_dflt assumption | fail "spec: the ledger"); (case k5 => first | k_asm | fail "spec: the top's facts"); (case kK => first | exact rfl | assumption | fail "spec: the caller is no def"); (case kd => first | (with_reducible exact roomN (by assumption) (by decide)) | ktr_room | fail "spec: room"); (case ku => first | (with_reducible exact roomN (by assumption) (by decide)) | ktr_units | fail "spec: units")); intro r9 h9 tk9 n9 F9 N9 _ hk9 R9; (try dsimp only at hk9); obtain ⟨⟨t9, e9, p9, q9⟩, e8⟩ := R9; subst e9; subst e8; (try simp only [List.nil_append, List.cons_append] at N9); (try dsimp only); (try k_fold))) | (k_dflt (refine' SpecK.use (count_dots_spec _ _ _ _ ?ha ?hb) _ ?k1 ?k2 ?k3 ?k4 ?k5 ?kK ?kd ?ku (led_nil _) (led_self _) (led_none _) ?_); (case ha => (first | (with_reducible first | exact tuL (by assumption) (by decide) | exact tuI (by assumption) (by decide) | exact tuJ (by assumption) (by decide) | exact Nat.zero_le _) | omega)); (case hb => (refine Nat.ne_of_gt ?_; (show (0 : Nat) < (_ : Nat)); first | exact posK (by assumption) (by assumption) | omega)); ((case k1 => first | k_asm | fail "spec: the frames below"); (case k2 => first | k_asm | k_dflt assumption | fail "spec: the frame"); (case k3 => first | k_asm | fail "spec: the written part"); (case k4 => first | k_asm | k_dflt assumption | fail "spec: the ledger"); (case k5 => first | k_asm | fail "spec: the top's facts"); (case kK => first | exact rfl | assumption | fail "spec: the caller is no def"); (case kd => first | (with_reducible exact roomN (by assumption) (by decide)) | ktr_room | fail "spec: room"); (case ku => first | (with_reducible exact roomN (by assumption) (by decide)) | ktr_units | fail "spec: units")); intro r9 h9 tk9 n9 F9 N9 _ hk9 R9; (try dsimp only at hk9); obtain ⟨⟨t9, e9, p9, q9⟩, e8⟩ := R9; subst e9; subst e8; (try simp only [List.nil_append, List.cons_append] at N9); (try dsimp only); (try k_fold))) | ((with_reducible show wpAny _ _ (subscriptTail _ (Expr.Slice _ _ none _) (Value.bytes _ _) (Value.ref _)) _ _ _); first | (with_reducible ((with_reducible rename Fr _ _ _ _ => F'); (with_reducible rename News _ _ _ _ => N'); (refine wpAny_toks' (slice_any (s := ⟨_, _, _, _, _⟩) F' N' (by constructor) (by constructor) (by rw [BB_size]; exact Nat.le_trans (row_len (by (first | (with_reducible first | exact tuL (by assumption) (by decide) | exact tuI (by assumption) (by decide) | exact tuJ (by assumption) (by decide) | exact Nat.zero_le _) | omega)) (cell_len _)) (by decide)) ?_)); intro h' t' k' F' N' hk'; (try dsimp only at hk'); rw [slice_dots])) | ((with_reducible rename Fr _ _ _ _ => F'); (with_reducible rename News _ _ _ _ => N'); (refine wpAny_toks' (slice_any (s := ⟨_, _, _, _, _⟩) F' N' (by constructor) (by constructor) (by rw [BB_size]; exact Nat.le_trans (row_len (by (first | (with_reducible first | exact tuL (by assumption) (by decide) | exact tuI (by assumption) (by decide) | exact tuJ (by assumption) (by decide) | exact Nat.zero_le _) | omega)) (cell_len _)) (by decide)) ?_)); intro h' t' k' F' N' hk'; (try dsimp only at hk'); rw [slice_dots])) | ((with_reducible show wpAny _ _ (call (Value.builtin "bytes.index") _ _) _ _ _); first | (with_reducible (k_dflt (refine wpAny_toks' (index_t (cell_signs _) ?_)); intro t' k' hk'; (try dsimp only at hk'))) | (k_dflt (refine wpAny_toks' (index_t (cell_signs _) ?_)); intro t' k' hk'; (try dsimp only at hk'))) | ((with_reducible show wpAny _ _ (call (Value.builtin "bytes.split") _ _) _ _ _); first | (with_reducible (k_dflt (refine' split_page ?j1 ?j2 ?a1 ?a2 ?a3 ?b1 ?b2 ?b3 ?b4 ?c1 ?c2 ?c3 ?c4 ?_; (case j1 => k_asm); (case j2 => k_asm); (case a1 => (first | (with_reducible first | exact tuL (by assumption) (by decide) | exact tuI (by assumption) (by decide) | exact tuJ (by assumption) (by decide) | exact Nat.zero_le _) | omega)); (case a2 => (first | (with_reducible first | exact tuL (by assumption) (by decide) | exact tuI (by assumption) (by decide) | exact tuJ (by assumption) (by decide) | exact Nat.zero_le _) | omega)); (case a3 => (first | (with_reducible first | exact tuL (by assumption) (by decide) | exact tuI (by assumption) (by decide) | exact tuJ (by assumption) (by decide) | exact Nat.zero_le _) | omega)); (case b1 => exact cell_len _); (case b2 => exact cell_len _); (case b3 => exact cell_len _); (case b4 => exact cell_len _); (case c1 => exact cell_signs _); (case c2 => exact cell_signs _); (case c3 => exact cell_signs _); (case c4 => exact cell_signs _)); intro h' a' t2' t0' t3' t1' t4' t5' k' l1 F' N'; (try k_lt l1))) | (k_dflt (refine' split_page ?j1 ?j2 ?a1 ?a2 ?a3 ?b1 ?b2 ?b3 ?b4 ?c1 ?c2 ?c3 ?c4 ?_; (case j1 => k_asm); (case j2 => k_asm); (case a1 => (first | (with_reducible first | exact tuL (by assumption) (by decide) | exact tuI (by assumption) (by decide) | exact tuJ (by assumption) (by decide) | exact Nat.zero_le _) | omega)); (case a2 => (first | (with_reducible first | exact tuL (by assumption) (by decide) | exact tuI (by assumption) (by decide) | exact tuJ (by assumption) (by decide) | exact Nat.zero_le _) | omega)); (case a3 => (first | (with_reducible first | exact tuL (by assumption) (by decide) | exact tuI (by assumption) (by decide) | exact tuJ (by assumption) (by decide) | exact Nat.zero_le _) | omega)); (case b1 => exact cell_len _); (case b2 => exact cell_len _); (case b3 => exact cell_len _); (case b4 => exact cell_len _); (case c1 => exact cell_signs _); (case c2 => exact cell_signs _); (case c3 => exact cell_signs _); (case c4 => exact cell_signs _)); intro h' a' t2' t0' t3' t1' t4' t5' k' l1 F' N'; (try k_lt l1))) | ((with_reducible show wpAny _ _ (getMethod _ _ _) _ _ _); first | (with_reducible ((with_reducible first   | (show wpAny _ _ (getMethod (Value.bytes _ _) (Str.ofString "split") _) _ _ _; refine method_split ?_)   | (show wpAny _ _ (getMethod (Value.bytes _ _) (Str.ofString "index") _) _ _ _; refine method_index ?_)))) | ((with_reducible first   | (show wpAny _ _ (getMethod (Value.bytes _ _) (Str.ofString "split") _) _ _ _; refine method_split ?_)   | (show wpAny _ _ (getMethod (Value.bytes _ _) (Str.ofString "index") _) _ _ _; refine method_index ?_)))) | (have hz9 : NoHalt := ⟨⟩; walk1; all_goals (try clear hz9))) | (k_unfold; (try dsimp only)) | (k_end; wrow_close) | walk1 | (dsimp only; walk1) | (leave1; walk_say "STEP leave1"; try dsimp only) | fail "no step"))
    unfold Halt
    (with_reducible rename News _ _ _ (_ :: _) => NN)
    refine' turn _ _ _ _ _ _ _ _ _ _ _ _ _ _ _ ?hd ?hm1 ?hm2 ?hF NN ?_
    case hF => k_asm
    case hm1 => exact rfl
    case hm2 => exact rfl
    case hd => omega
    intro h9 tk9 mD uD F9 N9 sD iD
    have eD1 : mD (Str.ofString "told") = some _ := mtrans sD (by decide) (by decide) eC1
    have eD2 : mD (Str.ofString "turns") = some _ := mtrans sD (by decide) (by decide) eC2
    have eD3 : mD (Str.ofString "dots") = some _ := mtrans sD (by decide) (by decide) rfl
    (try dsimp only)
    (try k_fold)
    (repeat' (first | (unfold Hold; first | ((with_reducible show wpAny _ _ (setItem (Value.ref _) (Value.int (ite _ _ _) _) _) _ _ _); first | (with_reducible (k_dflt (first   | ((refine' setItem_at (j := 0) ?hk0 ?_); (case hk0 => (first | exact ite0 (tuN (by assumption) (by decide)) (by decide) | (split <;> omega))))   | ((refine' setItem_at (j := 1) ?hk1 ?_); (case hk1 => (first | exact ite0 (tuN (by assumption) (by decide)) (by decide) | (split <;> omega))))   | ((refine' setItem_at (j := 2) ?hk2 ?_); (case hk2 => (first | exact ite0 (tuN (by assumption) (by decide)) (by decide) | (split <;> omega))))   | ((refine' setItem_at (j := 3) ?hk3 ?_); (case hk3 => (first | exact ite0 (tuN (by assumption) (by decide)) (by decide) | (split <;> omega))))))) | (k_dflt (first   | ((refine' setItem_at (j := 0) ?hk0 ?_); (case hk0 => (first | exact ite0 (tuN (by assumption) (by decide)) (by decide) | (split <;> omega))))   | ((refine' setItem_at (j := 1) ?hk1 ?_); (case hk1 => (first | exact ite0 (tuN (by assumption) (by decide)) (by decide) | (split <;> omega))))   | ((refine' setItem_at (j := 2) ?hk2 ?_); (case hk2 => (first | exact ite0 (tuN (by assumption) (by decide)) (by decide) | (split <;> omega))))   | ((refine' setItem_at (j := 3) ?hk3 ?_); (case hk3 => (first | exact ite0 (tuN (by assumption) (by decide)) (by decide) | (split <;> omega))))))) | ((with_reducible show wpAny _ _ (exec (PySem.Stmt.For _ (PySem.Expr.Call _ _ _ _) _ _ _) _) _ _ _); first | (with_reducible ((with_reducible rename InTurn => hIT); k_dflt ((with_reducible rename Fr _ _ _ _ => lF'); (with_unfolding_all refine' For_turns lF' ?_; k_whole)))) | ((with_reducible rename InTurn => hIT); k_dflt ((with_reducible rename Fr _ _ _ _ => lF'); (with_unfolding_all refine' For_turns lF' ?_; k_whole)))) | ((with_reducible show wpAny _ _ (call (Value.ref 261) [Value.bytes _ _]) _ _ _); first | (with_reducible (k_dflt (refine' Spec.use (law_number_spec _ _ _ ?ha ?hb _) _ ?k1 ?k2 ?k3 ?k4 ?k5 ?kK ?kd ?ku (led_nil _) (led_self _) (led_none _) ?_); (case ha => omega); (case hb => omega); ((case k1 => first | k_asm | fail "spec: the frames below"); (case k2 => first | k_asm | k_dflt assumption | fail "spec: the frame"); (case k3 => first | k_asm | fail "spec: the written part"); (case k4 => first | k_asm | k_dflt assumption | fail "spec: the ledger"); (case k5 => first | k_asm | fail "spec: the top's facts"); (case kK => first | exact rfl | assumption | fail "spec: the caller is no def"); (case kd => first | (with_reducible exact roomN (by assumption) (by decide)) | ktr_room | fail "spec: room"); (case ku => first | (with_reducible exact roomN (by assumption) (by decide)) | ktr_units | fail "spec: units")); intro r9 h9 tk9 n9 F9 N9 _ R9; obtain ⟨⟨t9, e9⟩, e8⟩ := R9; subst e9; subst e8; (try simp only [List.nil_append, List.cons_append] at N9); (try dsimp only); (try k_fold))) | (k_dflt (refine' Spec.use (law_number_spec _ _ _ ?ha ?hb _) _ ?k1 ?k2 ?k3 ?k4 ?k5 ?kK ?kd ?ku (led_nil _) (led_self _) (led_none _) ?_); (case ha => omega); (case hb => omega); ((case k1 => first | k_asm | fail "spec: the frames below"); (case k2 => first | k_asm | k_dflt assumption | fail "spec: the frame"); (case k3 => first | k_asm | fail "spec: the written part"); (case k4 => first | k_asm | k_dflt assumption | fail "spec: the ledger"); (case k5 => first | k_asm | fail "spec: the top's facts"); (case kK => first | exact rfl | assumption | fail "spec: the caller is no def"); (case kd => first | (with_reducible exact roomN (by assumption) (by decide)) | ktr_room | fail "spec: room"); (case ku => first | (with_reducible exact roomN (by assumption) (by decide)) | ktr_units | fail "spec: units")); intro r9 h9 tk9 n9 F9 N9 _ R9; obtain ⟨⟨t9, e9⟩, e8⟩ := R9; subst e9; subst e8; (try simp only [List.nil_append, List.cons_append] at N9); (try dsimp only); (try k_fold))) | ((with_reducible show wpAny _ _ (call (Value.ref 57) [Value.bytes _ _]) _ _ _); first | (with_reducible (k_dflt (refine' Spec.use (parse_flags_spec _ _ _ _ _ _ ?ha ?hb ?hc ?he) _ ?k1 ?k2 ?k3 ?k4 ?k5 ?kK ?kd ?ku (led_nil _) (led_self _) (led_none _) ?_); (case ha => assumption); (case hb => assumption); (case hc => assumption); (case he => assumption); ((case k1 => first | k_asm | fail "spec: the frames below"); (case k2 => first | k_asm | k_dflt assumption | fail "spec: the frame"); (case k3 => first | k_asm | fail "spec: the written part"); (case k4 => first | k_asm | k_dflt assumption | fail "spec: the ledger"); (case k5 => first | k_asm | fail "spec: the top's facts"); (case kK => first | exact rfl | assumption | fail "spec: the caller is no def"); (case kd => first | (with_reducible exact roomN (by assumption) (by decide)) | ktr_room | fail "spec: room"); (case ku => first | (with_reducible exact roomN (by assumption) (by decide)) | ktr_units | fail "spec: units")); intro r9 h9 tk9 n9 F9 N9 _ R9; obtain ⟨T9, vs9, e9, hb9, e8⟩ := R9; subst e9; subst e8; (try simp only [List.nil_append, List.cons_append] at N9); (try dsimp only); rcases words_cases hb9 with ⟨hz1, hz2, hz3⟩ | ⟨hz1, hz2, t9, hz3⟩ | ⟨hz1, hz2, t9, hz3⟩ | ⟨hz1, hz2, t9, u9, hz3⟩ <;> subst hz3)) | (k_dflt (refine' Spec.use (parse_flags_spec _ _ _ _ _ _ ?ha ?hb ?hc ?he) _ ?k1 ?k2 ?k3 ?k4 ?k5 ?kK ?kd ?ku (led_nil _) (led_self _) (led_none _) ?_); (case ha => assumption); (case hb => assumption); (case hc => assumption); (case he => assumption); ((case k1 => first | k_asm | fail "spec: the frames below"); (case k2 => first | k_asm | k_dflt assumption | fail "spec: the frame"); (case k3 => first | k_asm | fail "spec: the written part"); (case k4 => first | k_asm | k_dflt assumption | fail "spec: the ledger"); (case k5 => first | k_asm | fail "spec: the top's facts"); (case kK => first | exact rfl | assumption | fail "spec: the caller is no def"); (case kd => first | (with_reducible exact roomN (by assumption) (by decide)) | ktr_room | fail "spec: room"); (case ku => first | (with_reducible exact roomN (by assumption) (by decide)) | ktr_units | fail "spec: units")); intro r9 h9 tk9 n9 F9 N9 _ R9; obtain ⟨T9, vs9, e9, hb9, e8⟩ := R9; subst e9; subst e8; (try simp only [List.nil_append, List.cons_append] at N9); (try dsimp only); rcases words_cases hb9 with ⟨hz1, hz2, hz3⟩ | ⟨hz1, hz2, t9, hz3⟩ | ⟨hz1, hz2, t9, hz3⟩ | ⟨hz1, hz2, t9, u9, hz3⟩ <;> subst hz3)) | ((with_reducible show wpAny _ _ (exec (PySem.Stmt.For _ (PySem.Expr.Subscript _ _ _) _ _ _) _) _ _ _); first | (with_reducible (k_dflt ((with_reducible rename Fr _ _ _ _ => lF'); (with_unfolding_all refine' For_invVF lF' ?k1 ?k2 ?_; (case k1 => exact rfl); (case k2 => exact rfl); k_whole)))) | (k_dflt ((with_reducible rename Fr _ _ _ _ => lF'); (with_unfolding_all refine' For_invVF lF' ?k1 ?k2 ?_; (case k1 => exact rfl); (case k2 => exact rfl); k_whole)))) | ((with_reducible show wpAny _ _ (exec (PySem.Stmt.For _ (PySem.Expr.Call _ _ _ _) _ _ _) _) _ _ _); first | (with_reducible ((fail_if_success (with_reducible rename InTurn => hIT)); refine halt ?_)) | ((fail_if_success (with_reducible rename InTurn => hIT)); refine halt ?_)) | ((with_reducible show wpAny _ _ (call (Value.ref 78) [Value.bytes _ _, Value.int _ _]) _ _ _); first | (with_reducible (k_dflt (refine' SpecK.use (count_dots_spec _ _ _ _ ?ha ?hb) _ ?k1 ?k2 ?k3 ?k4 ?k5 ?kK ?kd ?ku (led_nil _) (led_self _) (led_none _) ?_); (case ha => (first | (with_reducible first | exact tuL (by assumption) (by decide) | exact tuI (by assumption) (by decide) | exact tuJ (by assumption) (by decide) | exact Nat.zero_le _) | omega)); (case hb => (refine Nat.ne_of_gt ?_; (show (0 : Nat) < (_ : Nat)); first | exact posK (by assumption) (by assumption) | omega)); ((case k1 => first | k_asm | fail "spec: the frames below"); (case k2 => first | k_asm | k_dflt assumption | fail "spec: the frame"); (case k3 => first | k_asm | fail "spec: the written part"); (case k4 => first | k_asm | k_dflt assumption | fail "spec: the ledger"); (case k5 => first | k_asm | fail "spec: the top's facts"); (case kK => first | exact rfl | assumption | fail "spec: the caller is no def"); (case kd => first | (with_reducible exact roomN (by assumption) (by decide)) | ktr_room | fail "spec: room"); (case ku => first | (with_reducible exact roomN (by assumption) (by decide)) | ktr_units | fail "spec: units")); intro r9 h9 tk9 n9 F9 N9 _ hk9 R9; (try dsimp only at hk9); obtain ⟨⟨t9, e9, p9, q9⟩, e8⟩ := R9; subst e9; subst e8; (try simp only [List.nil_append, List.cons_append] at N9); (try dsimp only); (try k_fold))) | (k_dflt (refine' SpecK.use (count_dots_spec _ _ _ _ ?ha ?hb) _ ?k1 ?k2 ?k3 ?k4 ?k5 ?kK ?kd ?ku (led_nil _) (led_self _) (led_none _) ?_); (case ha => (first | (with_reducible first | exact tuL (by assumption) (by decide) | exact tuI (by assumption) (by decide) | exact tuJ (by assumption) (by decide) | exact Nat.zero_le _) | omega)); (case hb => (refine Nat.ne_of_gt ?_; (show (0 : Nat) < (_ : Nat)); first | exact posK (by assumption) (by assumption) | omega)); ((case k1 => first | k_asm | fail "spec: the frames below"); (case k2 => first | k_asm | k_dflt assumption | fail "spec: the frame"); (case k3 => first | k_asm | fail "spec: the written part"); (case k4 => first | k_asm | k_dflt assumption | fail "spec: the ledger"); (case k5 => first | k_asm | fail "spec: the top's facts"); (case kK => first | exact rfl | assumption | fail "spec: the caller is no def"); (case kd => first | (with_reducible exact roomN (by assumption) (by decide)) | ktr_room | fail "spec: room"); (case ku => first | (with_reducible exact roomN (by assumption) (by decide)) | ktr_units | fail "spec: units")); intro r9 h9 tk9 n9 F9 N9 _ hk9 R9; (try dsimp only at hk9); obtain ⟨⟨t9, e9, p9, q9⟩, e8⟩ := R9; subst e9; subst e8; (try simp only [List.nil_append, List.cons_append] at N9); (try dsimp only); (try k_fold))) | ((with_reducible show wpAny _ _ (subscriptTail _ (Expr.Slice _ _ none _) (Value.bytes _ _) (Value.ref _)) _ _ _); first | (with_reducible ((with_reducible rename Fr _ _ _ _ => F'); (with_reducible rename News _ _ _ _ => N'); (refine wpAny_toks' (slice_any (s := ⟨_, _, _, _, _⟩) F' N' (by constructor) (by constructor) (by rw [BB_size]; exact Nat.le_trans (row_len (by (first | (with_reducible first | exact tuL (by assumption) (by decide) | exact tuI (by assumption) (by decide) | exact tuJ (by assumption) (by decide) | exact Nat.zero_le _) | omega)) (cell_len _)) (by decide)) ?_)); intro h' t' k' F' N' hk'; (try dsimp only at hk'); rw [slice_dots])) | ((with_reducible rename Fr _ _ _ _ => F'); (with_reducible rename News _ _ _ _ => N'); (refine wpAny_toks' (slice_any (s := ⟨_, _, _, _, _⟩) F' N' (by constructor) (by constructor) (by rw [BB_size]; exact Nat.le_trans (row_len (by (first | (with_reducible first | exact tuL (by assumption) (by decide) | exact tuI (by assumption) (by decide) | exact tuJ (by assumption) (by decide) | exact Nat.zero_le _) | omega)) (cell_len _)) (by decide)) ?_)); intro h' t' k' F' N' hk'; (try dsimp only at hk'); rw [slice_dots])) | ((with_reducible show wpAny _ _ (call (Value.builtin "bytes.index") _ _) _ _ _); first | (with_reducible (k_dflt (refine wpAny_toks' (index_t (cell_signs _) ?_)); intro t' k' hk'; (try dsimp only at hk'))) | (k_dflt (refine wpAny_toks' (index_t (cell_signs _) ?_)); intro t' k' hk'; (try dsimp only at hk'))) | ((with_reducible show wpAny _ _ (call (Value.builtin "bytes.split") _ _) _ _ _); first | (with_reducible (k_dflt (refine' split_page ?j1 ?j2 ?a1 ?a2 ?a3 ?b1 ?b2 ?b3 ?b4 ?c1 ?c2 ?c3 ?c4 ?_; (case j1 => k_asm); (case j2 => k_asm); (case a1 => (first | (with_reducible first | exact tuL (by assumption) (by decide) | exact tuI (by assumption) (by decide) | exact tuJ (by assumption) (by decide) | exact Nat.zero_le _) | omega)); (case a2 => (first | (with_reducible first | exact tuL (by assumption) (by decide) | exact tuI (by assumption) (by decide) | exact tuJ (by assumption) (by decide) | exact Nat.zero_le _) | omega)); (case a3 => (first | (with_reducible first | exact tuL (by assumption) (by decide) | exact tuI (by assumption) (by decide) | exact tuJ (by assumption) (by decide) | exact Nat.zero_le _) | omega)); (case b1 => exact cell_len _); (case b2 => exact cell_len _); (case b3 => exact cell_len _); (case b4 => exact cell_len _); (case c1 => exact cell_signs _); (case c2 => exact cell_signs _); (case c3 => exact cell_signs _); (case c4 => exact cell_signs _)); intro h' a' t2' t0' t3' t1' t4' t5' k' l1 F' N'; (try k_lt l1))) | (k_dflt (refine' split_page ?j1 ?j2 ?a1 ?a2 ?a3 ?b1 ?b2 ?b3 ?b4 ?c1 ?c2 ?c3 ?c4 ?_; (case j1 => k_asm); (case j2 => k_asm); (case a1 => (first | (with_reducible first | exact tuL (by assumption) (by decide) | exact tuI (by assumption) (by decide) | exact tuJ (by assumption) (by decide) | exact Nat.zero_le _) | omega)); (case a2 => (first | (with_reducible first | exact tuL (by assumption) (by decide) | exact tuI (by assumption) (by decide) | exact tuJ (by assumption) (by decide) | exact Nat.zero_le _) | omega)); (case a3 => (first | (with_reducible first | exact tuL (by assumption) (by decide) | exact tuI (by assumption) (by decide) | exact tuJ (by assumption) (by decide) | exact Nat.zero_le _) | omega)); (case b1 => exact cell_len _); (case b2 => exact cell_len _); (case b3 => exact cell_len _); (case b4 => exact cell_len _); (case c1 => exact cell_signs _); (case c2 => exact cell_signs _); (case c3 => exact cell_signs _); (case c4 => exact cell_signs _)); intro h' a' t2' t0' t3' t1' t4' t5' k' l1 F' N'; (try k_lt l1))) | ((with_reducible show wpAny _ _ (getMethod _ _ _) _ _ _); first | (with_reducible ((with_reducible first   | (show wpAny _ _ (getMethod (Value.bytes _ _) (Str.ofString "split") _) _ _ _; refine method_split ?_)   | (show wpAny _ _ (getMethod (Value.bytes _ _) (Str.ofString "index") _) _ _ _; refine method_index ?_)))) | ((with_reducible first   | (show wpAny _ _ (getMethod (Value.bytes _ _) (Str.ofString "split") _) _ _ _; refine method_split ?_)   | (show wpAny _ _ (getMethod (Value.bytes _ _) (Str.ofString "index") _) _ _ _; refine method_index ?_)))) | (have hz9 : NoHalt := ⟨⟩; walk1; all_goals (try clear hz9))) | (k_unfold; (try dsimp only)) | (k_end; wrow_close) | walk1 | (dsimp only; walk1) | (leave1; walk_say "STEP leave1"; try dsimp only) | fail "no step"))
    (try dsimp only)
    (with_reducible rename News _ _ _ (_ :: _) => NE)
    exact hQ _ _ _ _ _ (Flow.ret _) rfl (by k_asm) (fun p hp => NE p (.tail _ (.tail _ hp))) ⟨_, _, _, _, _, rfl, rfl⟩
end
end
theorem off_T5 : True := by
  w_top off
  trivial
section
/-- a def with cells is entered: its contract -/
theorem SpecK.enterC {w : World} {dd uu : Nat} {f : Addr} {vs : List Value} {kw : List (Str × Value)} {news : Led} {Ret : Heap → Nat → Value → Led → Prop} {name qual : Str} {params : Arguments} {body : List Stmt} {scope : Scope} {dV kV doc pm cdv ct oc : Value} {an od : Option Addr} {osl : Array (Option Value)} {binds : List (Str × Value)}
    (ho : (hd.heap_1 w.params).lookup f = some ⟨oc, od, .func (fnOf name qual params body scope dV kV doc pm an cdv ct), osl⟩) (hcd : codeIn (hd.heap_1 w.params) cdv qual = true)
    (hbind : ∀ s, (hd.heap_1 w.params).In s.heap → BindsTo s (fnOf name qual params body scope dV kV doc pm an cdv ct) ⟨vs, kw⟩ binds)
    (hkind : (binds.all fun y => scope.names.lookup y.1 == some .local || scope.names.lookup y.1 == some .cell) = true)
    (hnd : ((cellsFrom 0 scope.names []).map (·.1)).Nodup)
    (hco : scope.isCoroutine = false) (hgen : scope.isGenerator = false) (hk : scope.kind = .function) (hdd : 0 < dd)
    (h : ∀ (loose : List Str) (mean : ExcName → Option Value) (mg mb : Str → Option Value) (dp un : Nat) (gd : Option (List Code)) (outer : List Env) (A₀ : Around) (base g : Heap) (L : Addr) (h₁ : Heap) (s : Shared) (Q : Flow → Shared → Prop) (tk : Nat) (cells : Led),
      Below A₀ base outer g → Fr g L h₁ (bindL (envOfC qual scope L f cdv).kindOf binds fun _ => none) → (hd.heap_1 w.params).In g → News g L h₁ (cells ++ news) → CellsAre (bindC (envOfC qual scope L f cdv).kindOf binds fun _ => none) (cellsFrom (L + 1) scope.names []) cells →
      Top view loose mean mg mb g → dp + dd < recursionLimit + 1 → un + uu < cLine + 3 → (∀ p ∈ news, p.1 < L) →
      (∀ b o, s.heap.get? b = some o → b ∉ news.map (·.1) → g.get? b = some o) →
      (∀ r h' tk' m' news' fl, (match fl with | Flow.ret v => v | _ => .none) = r → Fr g L h' m' → News g L h' news' → (tk ≤ tk' → Ret s.heap tk' r news') → Q fl { s with heap := h', toks := tk' }) →
      wpAny (model Challenge.rw_wj0050_01.row.prog w) (ktrTop dp un gd qual scope L f cdv (cellsFrom (L + 1) scope.names []) outer) (execs body (envOfC qual scope L f cdv)) Q (fun _ _ => False) { s with heap := h₁, toks := tk }) : SpecK w dd uu f vs kw news Ret := by
  unfold SpecK
  intro loose mean mg mb dp un gd cn cs a ccd cl outer A₀ base h₀ L m s R B F X N T hk' hd' hu hR
  refine codeAny_toks ?_
  obtain ⟨FG, BG, st, lv⟩ := groundX (A := ktrTop dp un gd cn cs L a ccd cl outer) (env := envX cn cs L a ccd cl) (R := fun r s' => s.toks ≤ s'.toks → R r s') B F N rfl rfl hk'
  refine codeAny_call_function (fd := fnOf name qual params body scope dV kV doc pm an cdv ct) (body := body) (by show dp < _; omega) ((X.keeps F.keep) _ _ ho) rfl hco hgen rfl (codeRec_of (X.keeps F.keep) hcd) (hbind s (X.keeps F.keep) _ _ _ _ ?_)
  refine wpAny_newFunctionEnv_cells hk (kindsX hkind _) fun env' he s' x => ?_
  subst he
  refine ⟨(T.nolimit.keeps F.keep).keeps x.toInCall.keep, codeAny_func ?_⟩
  obtain ⟨h₁, tk, rfl, _⟩ := x.done
  have hk₁ := x.toInCall.keep
  obtain ⟨cells, NC, Y⟩ := Cl.news (h₀ := s.heap) (Nat.le_refl _) fun n c hm => ⟨x.cell n c (lookup_of_mem_nodup (cellsFrom_names scope.names 0 (s.heap.objs.size + 1) [] [] rfl ▸ hnd) hm), x.above n c hm⟩
  refine wpAny_toks' (wpAny_noRaise (wpAny_mono (h loose mean mg mb (dp + 1) (un + 3) gd _ _ base (hideAll s.heap (news.map (·.1))) s.heap.objs.size h₁ s
    (fun fl s' => tk ≤ s'.toks → LeaveK h₀ L m (hideAll s.heap (news.map (·.1))) (fun r s' => s.toks ≤ s'.toks → R r s') (match fl with | .ret v => v | _ => .none) s') tk cells
    BG ⟨x.toInCall.ns, fun b o e => hk₁ b o (of_hideAll _ e), Nat.le_of_eq (hideAll_size _ _)⟩ (X.keeps st) (fun p hp => ?_) Y (T.keeps st) (by omega) (by omega) (fun p hp => Heap.lt_size (N p hp).1)
    (fun b o e n => hideAll_get _ e n) fun r h' tk' m' news' fl e F₁ N₁ R₁ => ?_) (fun fl s' hl hle => lv _ _ (hl hle)) fun _ _ y => y))
  · rcases List.mem_append.mp hp with hp | hp
    · refine ⟨(NC p hp).1, (NC p hp).2.1, ?_⟩
      cases q : (hideAll s.heap (news.map (·.1))).get? p.1 with
      | none => rfl
      | some o => have := of_hideAll _ q; rw [(NC p hp).2.2] at this; cases this
    · exact ⟨hk₁ _ _ (N p hp).1, Nat.ne_of_lt (Heap.lt_size (N p hp).1), hideAll_none _ (List.mem_map_of_mem hp)⟩
  · intro hle
    refine ⟨_, m', news', F₁, N₁, fun F₂ N₂ hle₂ => ?_⟩
    subst e
    exact hR _ h' tk' news' F₂ N₂ (fun b o e n => F₁.keep b o (hideAll_get _ e fun q => n (List.mem_cons_of_mem _ q))) hle₂ (R₁ hle)
end
theorem off_T6 : True := by
  w_top off
  trivial
section
/-- the end of a turn: the ledger may have grown -/
noncomputable def TurnC (h₀ : Heap) (L : Addr) (s : Shared) (I : Addr) (oI : Obj) (J : (Str → Option Value) → Led → Nat → Prop) (tk : Nat) (f : Flow) (s' : Shared) : Prop :=
  f = .next ∧ ∃ h' tk' m' n', s' = { s with heap := h', toks := tk' } ∧ Fr h₀ L h' m' ∧ News h₀ L h' ((I, oI) :: n') ∧ (tk ≤ tk' → J m' n' tk')
theorem TurnC.intro {h₀ : Heap} {L : Addr} {s : Shared} {I : Addr} {oI : Obj} {J : (Str → Option Value) → Led → Nat → Prop} {tk : Nat} {h' : Heap} {tk' : Nat} {m' : Str → Option Value} {n' : Led} (F : Fr h₀ L h' m') (N : News h₀ L h' ((I, oI) :: n')) (h : tk ≤ tk' → J m' n' tk') : TurnC h₀ L s I oI J tk .next { s with heap := h', toks := tk' } := ⟨rfl, h', tk', m', n', rfl, F, N, h⟩
section
variable {prog : Program} {w : World} {A : Around} {s : Shared} {env : Env} {h₀ : Heap}
/-- a for loop over a list of the ledger; the ledger may change, the target may be a cell -/
theorem forList_C {R : Result → Shared → Prop} {E : Value → Shared → Prop} {x : Str} {px : Pos} {body : List Stmt} {m : Str → Option Value} {a : Addr} {its : Array Value} {k : Nat} {news : Led} (hh : A.handled = none)
    (F : Fr h₀ env.locals s.heap m) (N : News h₀ env.locals s.heap news) (hm : (a, listOf its k) ∈ news)
    (J : Addr → Nat → (Str → Option Value) → Led → Nat → Prop) (h0 : ∀ I, (∀ p ∈ news, p.1 < I) → J I 0 m news s.toks) (Jmono : ∀ I i m n a b, a ≤ b → J I i m n a → J I i m n b)
    (Jmem : ∀ I i m n t, J I i m n t → (a, listOf its k) ∈ n ∧ ∀ p ∈ n, p.1 ≠ I)
    (step : ∀ I oI i v m₁ n₁ h tk E', i < its.size → its[i]? = some v → s.toks ≤ tk → J I i m₁ n₁ tk → Fr h₀ env.locals h m₁ → News h₀ env.locals h ((I, oI) :: n₁) →
      wpAny (model prog w) A (storeName env x v) (fun _ s' => wpAny (model prog w) A (execs body env) (TurnC h₀ env.locals s I oI (J I (i + 1)) tk) E' s') E' { s with heap := h, toks := tk })
    (hR : ∀ I h' tk m' n', Fr h₀ env.locals h' m' → News h₀ env.locals h' n' → J I its.size m' n' tk → s.toks ≤ tk → R (.ok .next) { s with heap := h', toks := tk }) :
    wpAny (model prog w) A (pyIter (.ref a)) (fun it s₂ => codeAny (model prog w) A (.forLoop (.Name x px) it body [] env) R s₂) E s := by
  have hl : s.heap.IsList a its := N.isList hm
  refine wpAny_pyIter_list hl ?_
  have hsz : ∀ p ∈ news, p.1 < s.heap.objs.size := fun p hp => Heap.lt_size (N p hp).1
  have hne : a ≠ s.heap.objs.size := Nat.ne_of_lt (hsz _ hm)
  have W := Walks.list (prog := prog) (w := w) (A := A) hh s.heap.objs.size a hne its
  generalize hI : s.heap.objs.size = I at W hne hsz
  have hI₀ : h₀.get? I = none := hI ▸ next_is_new F
  have hIL : env.locals ≠ I := hI ▸ Nat.ne_of_lt F.ns.lt
  let St : Nat → Heap → Prop := fun i h => h.IsListIter I a i ∧ h.IsList a its
  refine codeAny_forLoop (fun k' s' => Ex5 fun h' tk m' n' i => An8 (s' = { s with heap := h', toks := tk }) (s.toks ≤ tk) (St i h') (Fr h₀ env.locals h' m') (News h₀ env.locals h' n') (J I i m' n' tk) (i ≤ its.size) (k' = its.size + 1 - i)) ?_ (its.size + 1)
    ⟨s.heap.push _, s.toks, m, news, 0, rfl, Nat.le_refl _, ⟨⟨_, hI ▸ Heap.get?_push_size _ rfl, rfl, rfl⟩, hl.push _⟩, F.push _, fun p hp => ⟨Heap.get?_push_of_some _ (N p hp).1, (N p hp).2⟩, h0 I hsz, Nat.zero_le _, rfl⟩
  rintro k' s' ⟨h', tk, m', n', i, rfl, hle, hst', F', N', hJ, hi, rfl⟩
  obtain ⟨hma, off⟩ := Jmem _ _ _ _ _ hJ
  have keepF : ∀ h₁ : Heap, (∀ b o, b ≠ I → h'.get? b = some o → h₁.get? b = some o) → Fr h₀ env.locals h₁ m' ∧ News h₀ env.locals h₁ n' := fun h₁ hk₁ =>
    ⟨⟨F'.ns.at' fun o e => hk₁ _ o hIL e, fun b o e => hk₁ b o (fun q => by rw [q, hI₀] at e; cases e) (F'.keep b o e), F'.above⟩, fun p hp => ⟨hk₁ _ _ (off p hp) (N' p hp).1, (N' p hp).2⟩⟩
  by_cases hlt : i < its.size
  · refine wpAny_toks' (W.item i _ _ _ hlt hst' fun v h₁ tk₁ hP hst₁ hk₁ hle₁ => ?_)
    have hk₁' : ∀ b o, b ≠ I → h'.get? b = some o → h₁.get? b = some o := fun b o hb e => hk₁ b o (by simpa using hb) e
    obtain ⟨F₁, N₁⟩ := keepF h₁ hk₁'
    obtain ⟨oI, hoI⟩ : ∃ o, h₁.get? I = some o := by obtain ⟨o, e, _⟩ := hst₁.1; exact ⟨o, e⟩
    have hle₁' : tk ≤ tk₁ := hle₁
    have N₂ : News h₀ env.locals h₁ ((I, oI) :: n') := fun p hp => by
      rcases List.mem_cons.mp hp with rfl | hp
      · exact ⟨hoI, Ne.symm hIL, hI₀⟩
      · exact N₁ p hp
    refine wpAny_assign_Name (wpAny_toks' (wpAny_mono (step I oI i v m' n' h₁ tk₁ _ hlt hP (Nat.le_trans hle hle₁') (Jmono _ _ _ _ _ _ hle₁' hJ) F₁ N₂) (fun _ s₂ h₂ hle₂ => wpAny_toks' (wpAny_mono h₂ (fun f s₃ h₃ => ?_) fun _ _ e => e)) fun _ _ e => e))
    obtain ⟨rfl, h₃', tk₃, m₂, n₂, rfl, F₃, N₃, hJ₃⟩ := h₃
    intro hle₃
    have hle₂' : tk₁ ≤ s₂.toks := hle₂
    have hle₃' : s₂.toks ≤ tk₃ := hle₃
    have hJ' := hJ₃ (Nat.le_trans hle₂' hle₃')
    refine ⟨its.size + 1 - (i + 1), subL (by assumption), h₃', tk₃, m₂, n₂, i + 1, rfl, by omega, ⟨hst₁.1.at fun o e => ?_, ?_⟩, F₃, fun p hp => N₃ p (.tail _ hp), hJ', hlt, rfl⟩
    · rw [hoI] at e; cases e; exact (N₃ _ (.head _)).1
    · exact News.isList (N := fun p hp => N₃ p (.tail _ hp)) (Jmem _ _ _ _ _ hJ').1
  · have hin : i = its.size := by omega
    subst hin
    refine wpAny_toks' (W.done _ _ _ hst' fun h₁ tk₁ hk₁ hle₁ => wpAny_execs_nil ?_)
    obtain ⟨F₁, N₁⟩ := keepF h₁ fun b o hb e => hk₁ b o (by simpa using hb) e
    have hle₁' : tk ≤ tk₁ := hle₁
    exact hR I h₁ tk₁ m' n' F₁ N₁ (Jmono _ _ _ _ _ _ hle₁' hJ) (by omega)
end
end
theorem off_T7 : True := by
  w_top off
  trivial
section
/-- a contract that changes nothing is used: the caller's ledger stays as it is -/
theorem SpecK.useR {w : World} {dd uu : Nat} {f : Addr} {vs : List Value} {kw : List (Str × Value)} {ps : Led} {Ret : Nat → Value → Prop} (h : SpecK w dd uu f vs kw ps (fun _ tk r n' => Ret tk r ∧ n' = ps))
    {loose : List Str} {mean : ExcName → Option Value} {mg mb : Str → Option Value} {dp un : Nat} {gd : Option (List Code)} {cn : Str} {cs : Scope} {a : Addr} {ccd : Value} {cl : List (Str × Addr)} {outer : List Env} {A₀ : Around} {base h₀ : Heap} {L : Addr} {m : Str → Option Value} {s : Shared} {Q E : Value → Shared → Prop} {led : Led}
    (B : Below A₀ base outer h₀) (F : Fr h₀ L s.heap m) (X : (hd.heap_1 w.params).In h₀) (N : News h₀ L s.heap led) (T : Top view loose mean mg mb h₀) (hk : cs.kind = .function)
    (hd : dp + dd < recursionLimit) (hu : un + uu < cLine) (h1 : ∀ p ∈ ps, p ∈ led)
    (hR : ∀ r h' tk', Fr h₀ L h' m → News h₀ L h' led → s.toks ≤ tk' → Ret tk' r → Q r { s with heap := h', toks := tk' }) :
    wpAny (model Challenge.rw_wj0050_01.row.prog w) (ktrTop dp un gd cn cs L a ccd cl outer) (call (.ref f) vs kw) Q E s := by
  refine SpecK.use h (led.filter fun q => !((ps.map (·.1)).contains q.1)) B F X N T hk hd hu h1 (fun p hp => (List.mem_filter.mp hp).1) (fun p hp => by simpa using (List.mem_filter.mp hp).2) fun r h' tk' n' F' N' _ hle R' => ?_
  obtain ⟨hr, rfl⟩ := R'
  refine hR r h' tk' F' (fun q hq => ?_) hle hr
  by_cases c : q.1 ∈ n'.map (·.1)
  · obtain ⟨p, hp, e⟩ := List.mem_map.mp c
    have z := N q hq
    have z' := N p (h1 p hp)
    have e' : q.2 = p.2 := Option.some.inj (z.1.symm.trans (e ▸ z'.1))
    have zz := N' p (List.mem_append_left _ hp)
    have : q = p := Prod.ext e.symm e'
    rw [this]
    exact zz
  · exact N' q (List.mem_append_right _ (List.mem_filter.mpr ⟨hq, by simpa using c⟩))
end
theorem off_T8 : True := by
  w_top off
  trivial
section
/-- the environment of a comprehension whose names hold cells -/
theorem newEnvC {M : Model} {A : Around} {E : Value → Shared → Prop} {s : Shared} {scope : Scope} {globals : Addr} {cl : List (Str × Addr)} {qual : Str} {outer : Env} {Q : Env → Shared → Prop}
    (hQ : Q (newEnv scope s.heap.objs.size globals (cellsFrom (s.heap.objs.size + 1) scope.names cl) qual none .none (some outer) builtinsNs) { s with heap := pushCells (s.heap.push { cls := .type "dict", data := .dict #[] }) scope.names }) :
    wpAny M A (newFunctionEnv scope globals cl [] qual none .none (some outer)) Q E s := by
  simp only [newFunctionEnv, Option.isSome_some, if_true]
  refine wpAny_bind (wpAny_alloc ?_)
  refine wpAny_bind (wpAny_layCells _ (fun name kind cells => by cases hkc : kind == NameKind.cell <;> simp [hkc]) _ _ _ _ ?_)
  rw [show ({ s with heap := s.heap.push { cls := .type "dict", data := .dict #[] } } : Shared).heap.objs.size = s.heap.objs.size + 1 from Heap.size_push ..]
  rw [List.forIn_nil]
  exact wpAny_bind (wpAny_pure (wpAny_pure hQ))
end
theorem off_T9 : True := by
  w_top off
  trivial
section
section
variable {prog : Program} {w : World} {A : Around} {E : Value → Shared → Prop} {s : Shared} {h₀ : Heap} {L : Addr} {m : Str → Option Value} {env : Env}
/-- one item of a comprehension is told -/
noncomputable def EltEnd (h₀ : Heap) (L : Addr) (m : Str → Option Value) (s₁ : Shared) (led : Led) (V : Value → Prop) (y : Value) (s₂ : Shared) : Prop :=
  Ex2 fun h' tk => An4 (s₂ = { s₁ with heap := h', toks := tk }) (Fr h₀ L h' m) (News h₀ L h' led) (V y)
theorem EltEnd.intro {h₀ : Heap} {L : Addr} {m : Str → Option Value} {s₁ : Shared} {led : Led} {V : Value → Prop} {y : Value} {h' : Heap} {tk : Nat} (F : Fr h₀ L h' m) (N : News h₀ L h' led) (hv : V y) : EltEnd h₀ L m s₁ led V y { s₁ with heap := h', toks := tk } := ⟨h', tk, rfl, F, N, hv⟩
/-- the source of a comprehension whose target is a cell -/
noncomputable def CellSrc (prog : Program) (w : World) (A : Around) (h₀ : Heap) (L : Addr) (m : Str → Option Value) (env : Env) (elt : Expr) (x : Str) (scope : Scope) (cl : List (Str × Addr)) (Q : Value → Shared → Prop) (n : Nat) (a : Int) (news : Led) (V : Nat → Value → Prop) (xv : Value) (s₁ : Shared) : Prop :=
  ∃ r b t u v, xv = .ref r ∧ Fr h₀ L s₁.heap m ∧ News h₀ L s₁.heap news ∧ IsRange s₁.heap r a b 1 t u v ∧ Builtin.Range.small a b 1 = true ∧ Builtin.Range.rangeSize a b 1 = ((n : Nat) : Int) ∧
      (∀ i v I oI C oC D c oc ys h tk E', i < n → (∃ t, v = .int (a + (i : Int)) t) → oc.data = .cell (some v) → Fr h₀ L h m → News h₀ L h ((I, oI) :: (C, oC) :: (D, LCg.lst ys) :: (c, oc) :: news) → (D < C ∧ C < c ∧ I < D) → (∀ p ∈ news, p.1 < I) →
        wpAny (model prog w) A (eval elt (compEnvC scope ((x, c) :: cl) C env)) (EltEnd h₀ L m s₁ ((I, oI) :: (C, oC) :: (D, LCg.lst ys) :: (c, oc) :: news) (V i)) E' { s₁ with heap := h, toks := tk }) ∧
      (∀ D ys h tk, ys.length = n → (∀ i y, ys[i]? = some y → V i y) → Fr h₀ L h m → News h₀ L h ((D, LCg.lst ys) :: news) → (∀ p ∈ news, p.1 < D) → Q (.ref D) { s₁ with heap := h, toks := tk })
/-- a comprehension over a range whose target is a cell -/
theorem ListComp_cell {elt iter : Expr} {x : Str} {px : Pos} {scope : Scope} {cl : List (Str × Addr)} {pos : Pos} {Q : Value → Shared → Prop} {n : Nat} {a : Int} {news : Led} (V : Nat → Value → Prop) (_F₀ : Fr h₀ L s.heap m) (_N₀ : News h₀ L s.heap news)
    (hclos : closureFor scope env = pure cl) (hkind : scope.kind = .function) (hone : ∀ h, pushCells h scope.names = h.push { cls := .type "cell", data := .cell none }) (hcs : ∀ k, cellsFrom k scope.names cl = (x, k) :: cl)
    (hnames : ∀ y ∈ scope.names, y.2 = .local → scope.names.lookup y.1 = some .local) (hx : (relabel scope env).names.lookup x = some .cell) (hh : A.handled = none) (hsz : n ≤ sizeLine)
    (h : wpAny (model prog w) A (eval iter env) (CellSrc prog w A h₀ L m env elt x scope cl Q n a news V) E s)
    (hs : ∀ x, foldedSetIterable iter env x = pure x := by intro _; rfl) :
    wpAny (model prog w) A (eval (.ListComp elt [⟨.Name x px, iter, [], 0⟩] scope pos) env) Q E s := by
  rw [eval_ListComp]
  refine wpAny_comprehension_free (use := none) rfl hs hclos hkind hnames (wpAny_mono h (fun xv s₁ h₁ => ?_) fun _ _ e => e)
  obtain ⟨r, b, t, u, v, rfl, F, N, hr, hsm, hn, step, fin⟩ := h₁
  refine wpAny_pyIter_range hr hsm ?_
  refine wpAny_newObj_type (newEnvC ?_)
  dsimp only
  rw [hone, hcs]
  have hI₀ : h₀.get? s₁.heap.objs.size = none := next_is_new F
  have hLI : L < s₁.heap.objs.size := F.ns.lt
  have hlt : ∀ p ∈ news, p.1 < s₁.heap.objs.size := fun p hp => Heap.lt_size (N p hp).1
  generalize hI : s₁.heap.objs.size = I at hI₀ hLI hlt ⊢
  generalize hH1 : s₁.heap.push _ = H1
  have hD : H1.objs.size = I + 1 := by rw [← hH1, Heap.size_push, hI]
  generalize hH2 : H1.push _ = H2
  have hC : H2.objs.size = I + 2 := by rw [← hH2, Heap.size_push, hD]
  rw [hD, hC]
  generalize hH3 : H2.push _ = H3
  have hc : H3.objs.size = I + 3 := by rw [← hH3, Heap.size_push, hC]
  generalize hH4 : H3.push _ = H4
  have up2 : ∀ b o, H1.get? b = some o → H4.get? b = some o := fun b o e => hH4 ▸ Heap.get?_push_of_some _ (hH3 ▸ Heap.get?_push_of_some _ (hH2 ▸ Heap.get?_push_of_some _ e))
  have up : ∀ b o, s₁.heap.get? b = some o → H4.get? b = some o := fun b o e => up2 b o (hH1 ▸ Heap.get?_push_of_some _ e)
  have gI : H4.get? I = some { cls := .type "range_iterator", data := .fields #[rawInt a, rawInt (Builtin.Range.rangeSize a b 1), rawInt 1] } := up2 _ _ (hH1 ▸ hI ▸ Heap.get?_push_size _ rfl)
  have gD : H4.get? (I + 1) = some (LCg.lst []) := hH4 ▸ Heap.get?_push_of_some _ (hH3 ▸ Heap.get?_push_of_some _ (hH2 ▸ hD ▸ Heap.get?_push_size _ rfl))
  have gC : H4.get? (I + 2) = some { cls := .type "dict", data := .dict #[] } := hH4 ▸ Heap.get?_push_of_some _ (hH3 ▸ hC ▸ Heap.get?_push_size _ rfl)
  have gc : H4.get? (I + 3) = some { cls := .type "cell", data := .cell none } := hH4 ▸ hc ▸ Heap.get?_push_size _ rfl
  have f0 : ∀ b, I ≤ b → h₀.get? b = none := fun b hb => by
    cases e : h₀.get? b with
    | none => rfl
    | some o => exact absurd (hI ▸ Heap.lt_size (F.keep b o e)) (Nat.not_lt.mpr hb)
  have W := LCg.range_walks (prog := prog) (w := w) (A := A) (I := I) hh a n
  have nsC : H4.Ns (I + 2) (fun _ => none) := by
    have := Heap.Ns.new H2 (.type "dict")
    rw [hC, hH3] at this
    exact this.keeps fun b o e => hH4 ▸ Heap.get?_push_of_some _ e
  obtain ⟨oC, heC, hoC⟩ := LCg.ns_obj nsC
  have loop : codeAny (model prog w) A (.compLoop (.ListComp elt [⟨.Name x px, iter, [], 0⟩] scope pos) 0 (.ref I) (.ref (I + 1)) (compEnvC scope ((x, I + 3) :: cl) (I + 2) env))
      (compPost (model prog w) A E none Q (.ref (I + 1)) (I + 2)) { s₁ with heap := H4 } := by
    refine codeAny_compLoop_tests (fun k s' => Ex6 fun h' tk i ys oc v₀ => An9 (s' = { s₁ with heap := h', toks := tk }) (i ≤ n) (k = n + 1 - i) (ys.length = i) (IsRangeIter h' I (a + (i : Nat) * 1) ((n : Int) - (i : Nat)) 1) (Fr h₀ L h' m) (oc.data = .cell v₀) (News h₀ L h' ((I + 2, oC) :: (I + 1, LCg.lst ys) :: (I + 3, oc) :: news)) (∀ j y, ys[j]? = some y → V j y)) ?_ (n + 1)
      ⟨H4, s₁.toks, 0, [], { cls := .type "cell", data := .cell none }, none, rfl, Nat.zero_le _, rfl, rfl, (by show _ = _; rw [hn] at gI; simpa using gI), F.keeps up, rfl, ?_, by intro j y h; simp at h⟩
    · rintro k s' ⟨h', tk, i, ys, oc, v₀, rfl, hi, rfl, hyl, hst', F', hoc, N', hV⟩
      have offI : ∀ p ∈ (I + 2, oC) :: (I + 1, LCg.lst ys) :: (I + 3, oc) :: news, p.1 ≠ I := fun p hp => by
        refine mem_elim hp ?_ fun hp => ?_
        · exact Nat.ne_of_gt (Nat.lt_add_of_pos_right (by decide))
        refine mem_elim hp ?_ fun hp => ?_
        · exact Nat.ne_of_gt (Nat.lt_add_of_pos_right (by decide))
        refine mem_elim hp ?_ fun hp => ?_
        · exact Nat.ne_of_gt (Nat.lt_add_of_pos_right (by decide))
        · exact Nat.ne_of_lt (hlt p hp)
      by_cases hlt' : i < n
      · refine W.item i _ _ _ hlt' hst' fun v h₂ tk₂ hPv hst₂ hk₂ => ?_
        have F₂ := LCg.fr_but F' hk₂ (Nat.ne_of_lt hLI) hI₀
        have N₂ := LCg.news_but N' hk₂ offI
        have zc := N₂ (I + 3, oc) (.tail _ (.tail _ (.head _)))
        refine wpAny_assign_Name (wpAny_storeName_cell (by simp [compEnvC, relabel, hkind]) hx (by simp [compEnvC]) ⟨oc, zc.1, hoc⟩ fun h₃ hc₃ hs₃ => ?_)
        refine wpAny_tests_nil ?_
        simp only [if_true]
        obtain ⟨oc₃, ec₃, dc₃⟩ := hc₃
        have hL3 : I + 3 ≠ L := fun q => Nat.lt_irrefl _ (Nat.lt_of_lt_of_le (q ▸ hLI) (Nat.le_add_right _ _))
        have F₃ := F₂.change hs₃ hL3 (f0 _ (Nat.le_add_right _ _))
        have other : ∀ b o, b ≠ I + 3 → h₂.get? b = some o → h₃.get? b = some o := fun b o hb e => (hs₃.2 b hb).trans e
        have hst₃ : IsRangeIter h₃ I (a + ((i + 1 : Nat) : Nat) * 1) ((n : Int) - ((i + 1 : Nat) : Nat)) 1 := other _ _ (by omega) hst₂
        have N₃ : News h₀ L h₃ ((I, _) :: (I + 2, oC) :: (I + 1, LCg.lst ys) :: (I + 3, oc₃) :: news) := fun p hp => by
          refine mem_elim hp ?_ fun hp => ?_
          · exact ⟨hst₃, Nat.ne_of_gt hLI, hI₀⟩
          refine mem_elim hp ?_ fun hp => ?_
          · have z := N₂ _ (.head _); exact ⟨other _ _ (addNe (I := I) (a := 2) (b := 3) (by decide)) z.1, z.2⟩
          refine mem_elim hp ?_ fun hp => ?_
          · have z := N₂ _ (.tail _ (.head _)); exact ⟨other _ _ (addNe (I := I) (a := 1) (b := 3) (by decide)) z.1, z.2⟩
          refine mem_elim hp ?_ fun hp => ?_
          · exact ⟨ec₃, hL3, f0 _ (Nat.le_add_right _ _)⟩
          · have z := N₂ p (.tail _ (.tail _ (.tail _ hp))); exact ⟨other _ _ (fun q => by have := hlt p hp; rw [q] at this; exact absurd this (Nat.not_lt.mpr (Nat.le_add_right _ _))) z.1, z.2⟩
        refine wpAny_mono (step i v I _ (I + 2) oC (I + 1) (I + 3) oc₃ ys h₃ _ _ hlt' hPv dc₃ F₃ N₃ ⟨Nat.lt_succ_self _, Nat.lt_succ_self _, Nat.lt_succ_self _⟩ hlt) (fun y s₄ h₄ => ?_) fun _ _ e => e
        obtain ⟨h₄, tk₄, rfl, F₄, N₄, hy⟩ := h₄
        have zD := (N₄ (I + 1, LCg.lst ys) (.tail _ (.tail _ (.head _)))).1
        refine append_at (hsz := by show ys.toArray.size ≤ sizeLine; rw [List.size_toArray, hyl]; exact Nat.le_trans hi hsz) zD fun h₅ hs₅ hD₅ => ?_
        have other5 : ∀ b o, b ≠ I + 1 → h₄.get? b = some o → h₅.get? b = some o := fun b o hb e => (hs₅.2 b hb).trans e
        refine ⟨n + 1 - (i + 1), subL (by assumption), h₅, tk₄, i + 1, ys ++ [y], oc₃, _, rfl, hlt', rfl, by rw [List.length_append, List.length_singleton, hyl], other5 _ _ (by omega) (N₄ _ (.head _)).1, F₄.change hs₅ (fun q => Nat.lt_irrefl _ (Nat.lt_of_lt_of_le (q ▸ hLI) (Nat.le_add_right _ _))) (f0 _ (Nat.le_add_right _ _)), dc₃, fun p hp => ?_, fun j y' hj => ?_⟩
        · refine mem_elim hp ?_ fun hp => ?_
          · have z := N₄ _ (.tail _ (.head _)); exact ⟨other5 _ _ (addNe (I := I) (a := 2) (b := 1) (by decide)) z.1, z.2⟩
          refine mem_elim hp ?_ fun hp => ?_
          · have z := N₄ (I + 1, LCg.lst ys) (.tail _ (.tail _ (.head _))); exact ⟨hD₅.trans (congrArg some (LCg.lst_snoc ys y)), z.2⟩
          refine mem_elim hp ?_ fun hp => ?_
          · have z := N₄ (I + 3, oc₃) (.tail _ (.tail _ (.tail _ (.head _)))); exact ⟨other5 _ _ (addNe (I := I) (a := 3) (b := 1) (by decide)) z.1, z.2⟩
          · have z := N₄ p (.tail _ (.tail _ (.tail _ (.tail _ hp)))); exact ⟨other5 _ _ (fun q => by have := hlt p hp; rw [q] at this; exact absurd this (Nat.not_lt.mpr (Nat.le_add_right _ _))) z.1, z.2⟩
        · by_cases hji : j < ys.length
          · rw [List.getElem?_append_left hji] at hj; exact hV j y' hj
          · rw [List.getElem?_append_right (Nat.le_of_not_lt hji)] at hj
            have hj0 : j = i := by
              have : j - ys.length < 1 := (List.getElem?_eq_some_iff.mp hj).1
              exact jEq (by assumption) hji this
            subst hj0
            rw [hyl, Nat.sub_self] at hj
            cases hj
            exact hy
      · obtain rfl : i = n := Nat.le_antisymm hi (Nat.not_lt.mp hlt')
        refine W.done _ _ _ hst' fun h₂ tk₂ hk₂ => ?_
        have F₂ := LCg.fr_but F' hk₂ (Nat.ne_of_lt hLI) hI₀
        have N₂ := LCg.news_but N' hk₂ offI
        refine ⟨_, hoC.ns (N₂ (I + 2, oC) (.head _)).1, fun h'' hs'' => fin (I + 1) ys h'' tk₂ hyl hV (F₂.change hs'' (fun q => Nat.lt_irrefl _ (Nat.lt_of_lt_of_le (q ▸ hLI) (Nat.le_add_right _ _))) (f0 _ (Nat.le_add_right _ _))) (fun p hp => ?_) (fun p hp => Nat.lt_succ_of_lt (hlt p hp))⟩
        refine mem_elim hp ?_ fun hp => ?_
        · have z := N₂ (I + 1, LCg.lst ys) (.tail _ (.head _)); exact ⟨(hs''.2 _ (addNe (I := I) (a := 1) (b := 2) (by decide))).trans z.1, z.2⟩
        · have z := N₂ p (.tail _ (.tail _ (.tail _ hp))); exact ⟨(hs''.2 _ (fun q => by have := hlt p hp; rw [q] at this; exact absurd this (Nat.not_lt.mpr (Nat.le_add_right _ _)))).trans z.1, z.2⟩
    · intro p hp
      refine mem_elim hp ?_ fun hp => ?_
      · exact ⟨heC, fun q => Nat.lt_irrefl _ (Nat.lt_of_lt_of_le (q ▸ hLI) (Nat.le_add_right _ _)), f0 _ (Nat.le_add_right _ _)⟩
      refine mem_elim hp ?_ fun hp => ?_
      · exact ⟨gD, fun q => Nat.lt_irrefl _ (Nat.lt_of_lt_of_le (q ▸ hLI) (Nat.le_add_right _ _)), f0 _ (Nat.le_add_right _ _)⟩
      refine mem_elim hp ?_ fun hp => ?_
      · exact ⟨gc, fun q => Nat.lt_irrefl _ (Nat.lt_of_lt_of_le (q ▸ hLI) (Nat.le_add_right _ _)), f0 _ (Nat.le_add_right _ _)⟩
      · exact ⟨up _ _ (N p hp).1, (N p hp).2⟩
  exact codeAny_compStart_list loop (W.self 0 _ _ _ (by show _ = _; rw [hn] at gI; simpa using gI) loop)
end
end
theorem off_U1 : True := by
  w_top off
  trivial
section
namespace UF
theorem type_gi : typeOf (.builtin "list.__getitem__") = pure (.type "method_descriptor") := by show builtinType _ = _; rw [builtinType_eq_fast]; kernel_rfl
theorem slot_md_get : Slot "method_descriptor" "__get__" "method_descriptor.__get__" :=
  .of (owner := "method_descriptor") (n := "__get__") (by rw [typeLookup_type, builtinLookup_eq_fast]; kernel_rfl) (by decide +kernel) (by decide +kernel) (by decide +kernel)
    (by first | exact .inl (by decide +kernel) | exact .inr (by decide +kernel)) (by rw [isSubtype_type]; kernel_rfl)
theorem md_set : typeLookup (.type "method_descriptor") "__set__" = pure none := by rw [typeLookup_type, builtinLookup_eq_fast]; kernel_rfl
theorem md_del : typeLookup (.type "method_descriptor") "__delete__" = pure none := by rw [typeLookup_type, builtinLookup_eq_fast]; kernel_rfl
theorem entry_md_get : entryFor table "method_descriptor.__get__" = some Builtin.«method_descriptor.__get__» := entryFor_of_tree (by kernel_rfl)
theorem args_md_get (a b c : Value) : argsOk "method_descriptor.__get__" ⟨[a, b, c], []⟩ := by unfold argsOk; kernel_rfl
theorem owner_gi : (".".intercalate ("list.__getitem__".cutAt '.').dropLast) = "list" := by
  have e0 : "list.__getitem__".cutAt '.' = ["list", "__getitem__"] := by first | rfl | decide +kernel
  rw [e0]; decide +kernel
theorem sub_gi : isSubtype (.type "list") (.type (".".intercalate ("list.__getitem__".cutAt '.').dropLast)) = pure true := by
  rw [owner_gi, isSubtype_type]; kernel_rfl
theorem told : Manifest.toldItsClass.contains "list.__getitem__" = false := by decide +kernel
theorem sub_mod : isSubtype (.type "list") (.type "module") = pure false := by rw [isSubtype_type]; kernel_rfl
theorem kind_has : builtinKind "hasattr" = none := by decide +kernel
theorem entry_has : entryFor table "hasattr" = some Builtin.«hasattr» := entryFor_of_tree (by kernel_rfl)
theorem plain_has : plainId "hasattr" = true := by decide +kernel
theorem args_has (a b : Value) : argsOk "hasattr" ⟨[a, b], []⟩ := by unfold argsOk; kernel_rfl
theorem lk_gi : typeLookup (.type "list") "__getitem__" = pure (some (.builtin "list.__getitem__")) := by rw [typeLookup_type, builtinLookup_eq_fast]; kernel_rfl
theorem lk_ga : typeLookup (.type "list") "__getattribute__" = pure (some (.builtin "list.__getattribute__")) := by rw [typeLookup_type, builtinLookup_eq_fast]; kernel_rfl
theorem no_data : withoutEnding? "list.__getitem__" "#data" = none := by decide +kernel
end UF
section
variable {prog : Program} {w : World} {A : Around} {E : Value → Shared → Prop} {h : Heap} {g : Array GenState} {d : Drawn} {t : Nat} {os : OsState} {a : Addr} {xs : Array Value} {k : Nat}
noncomputable abbrev boundO (a : Addr) : Obj := { cls := .type "builtin_function_or_method", data := .fields #[.builtin "list.__getitem__", .ref a] }
theorem gi_get {R : Result → Shared → Prop} (hx : h.get? a = some (listOf xs k)) (hq : R (.ok (.ret (.ref h.objs.size))) ⟨h.push (boundO a), g, d, t, os⟩) :
    codeAny (model prog w) A (.call (.builtin "method_descriptor.__get__") ⟨[.builtin "list.__getitem__", .ref a, .type "list"], []⟩) R ⟨h, g, d, t, os⟩ := by
  have hT : (⟨h, g, d, t, os⟩ : Shared).TypeIs (.ref a) "list" := ⟨_, hx, rfl⟩
  have hT5 : (⟨h, g, d, t, os⟩ : Shared).TypeIs (.builtin "list.__getitem__") "method_descriptor" := UF.type_gi
  have f8 := UF.sub_gi
  have f9 := UF.told
  refine codeAny_call_builtin UF.slot_md_get.plain UF.entry_md_get (UF.slot_md_get.check _ _ _ _ _ _ _ _ hT5 (UF.args_md_get _ _ _) ?_)
  unfold Builtin.«method_descriptor.__get__»
  repeat (any_goals (first | assumption | wp_step))
theorem gi_entry {tk : Tok} {Q : Fin → Shared → Prop} (hx : h.get? a = some (listOf xs k)) (hq : Q (.done (.ret (.ref h.objs.size))) ⟨h.push (boundO a), g, d, t, os⟩) :
    wpAny (model prog w) A (Builtin.«object.__getattribute__» ⟨[.ref a, .str "__getitem__" tk], []⟩) Q E ⟨h, g, d, t, os⟩ := by
  have hT : (⟨h, g, d, t, os⟩ : Shared).TypeIs (.ref a) "list" := ⟨_, hx, rfl⟩
  have hT5 : (⟨h, g, d, t, os⟩ : Shared).TypeIs (.builtin "list.__getitem__") "method_descriptor" := UF.type_gi
  have f4 := UF.lk_gi
  have f5 := UF.type_gi
  have f6 := UF.slot_md_get.lookup
  have f7 := UF.md_set
  have f8 := UF.md_del
  repeat (any_goals (first | assumption | wp_step))
  refine gi_get hx ?_
  repeat (any_goals (first | assumption | wp_step))
theorem gi_by {tk : Tok} {Q : Value → Shared → Prop} (hx : h.get? a = some (listOf xs k)) (hq : Q (.ref h.objs.size) ⟨h.push (boundO a), g, d, t, os⟩) :
    wpAny (model prog w) A (getAttrBy (.ref a) (.str "__getitem__" tk) false) Q E ⟨h, g, d, t, os⟩ := by
  have hT : (⟨h, g, d, t, os⟩ : Shared).TypeIs (.ref a) "list" := ⟨_, hx, rfl⟩
  have f2 := F.slot_list_getattribute.lookup
  have f3 := F.slot_list_getattribute.bind (.ref a)
  repeat (any_goals (first | assumption | wp_step))
  refine codeAny_call_builtin F.slot_list_getattribute.plain F.entry_list_ga (F.slot_list_getattribute.check _ _ _ _ _ _ _ _ hT (F.args_list_getattribute_2 _ _) (gi_entry hx ?_))
  repeat (any_goals (first | assumption | wp_step))
theorem has_gi {tk : Tok} {Q : Value → Shared → Prop} (hx : h.get? a = some (listOf xs k)) (hq : Q (.bool true) ⟨h.push (boundO a), g, d, t, os⟩) :
    wpAny (model prog w) A (call (.builtin "hasattr") [.ref a, .str "__getitem__" tk]) Q E ⟨h, g, d, t, os⟩ := by
  refine Calls.call_function_entry UF.kind_has UF.plain_has UF.entry_has (UF.args_has _ _) ?_
  have hT : (⟨h, g, d, t, os⟩ : Shared).TypeIs (.ref a) "list" := ⟨_, hx, rfl⟩
  have f1 := UF.lk_gi
  have f2 := UF.lk_ga
  have f3 := UF.sub_mod
  have f4 := UF.no_data
  unfold Builtin.«hasattr» getAttrBy?
  repeat (any_goals (first | assumption | with_reducible apply gi_by hx | wp_step))
  exact ⟨_, rfl, hq⟩
end
end
theorem off_W15a : True := by
  w_top off
  trivial
section
section
theorem has_led {prog : Program} {w : World} {A : Around} {E : Value → Shared → Prop} {s : Shared} {h₀ : Heap} {L a : Addr} {m : Str → Option Value} {news : Led} {xs : Array Value} {k : Nat} {tk : Tok} {Q : Value → Shared → Prop} (F : Fr h₀ L s.heap m) (N : News h₀ L s.heap news) (hm : (a, listOf xs k) ∈ news)
    (h : ∀ q h', Fr h₀ L h' m → News h₀ L h' ((q, boundO a) :: news) → (∀ p ∈ news, p.1 < q) → Q (.bool true) { s with heap := h' }) : wpAny (model prog w) A (call (.builtin "hasattr") [.ref a, .str (Str.ofString "__getitem__") tk]) Q E s := by
  obtain ⟨hp, g, d, t, os⟩ := s
  exact has_gi (N _ hm).1 (h hp.objs.size _ (F.push _) (N.push F _) fun p hp => Heap.lt_size (N p hp).1)
theorem iadd_lists {prog : Program} {w : World} {A : Around} {E : Value → Shared → Prop} {s : Shared} {h₀ : Heap} {L a b : Addr} {m : Str → Option Value} {pre post : Led} {xs ys : Array Value} {n n2 : Nat} {Q : Value → Shared → Prop} (F : Fr h₀ L s.heap m) (N : News h₀ L s.heap (pre ++ (a, listOf xs n) :: post)) (hb : (b, listOf ys n2) ∈ pre ++ (a, listOf xs n) :: post) (h1 : ∀ p ∈ pre, p.1 ≠ a) (h2 : ∀ p ∈ post, p.1 ≠ a) (hne : ys.size ≠ 0) (hz : xs.size ≤ 1000) (hz2 : ys.size ≤ 1000)
    (h : ∀ h', Fr h₀ L h' m → News h₀ L h' (pre ++ (a, listOf (xs ++ ys) (n + 1)) :: post) → Q (.ref a) { s with heap := h' }) : wpAny (model prog w) A (inplaceOp .Add (.ref a) (.ref b)) Q E s := by
  have z := N (a, listOf xs n) (List.mem_append.mpr (.inr (.head _)))
  have hz0 : xs.size + ys.size ≤ sizeLine := Nat.le_trans (Nat.add_le_add hz hz2) (by decide)
  have ha : s.TypeIs (.ref a) "list" := ⟨_, z.1, rfl⟩
  have hbT : s.TypeIs (.ref b) "list" := ⟨_, (N _ hb).1, rfl⟩
  have hl : Builtin.List.listTooLong (xs.size + ys.size) = false := by
    unfold Builtin.List.listTooLong
    simp only [decide_eq_false_iff_not]
    intro q
    have : xs.size + ys.size ≤ 2000 := by omega
    revert q
    simp
    omega
  unfold inplaceOp
  refine wpAny_holding ?_
  have hfi : fillsInplaceSlot (.type "list") "add" (Operator.Add == .Add) = pure false := by
    unfold fillsInplaceSlot
    show (typeLookup (.type "list") (dunderI "add") >>= fun fi => pure (fi.isSome && !isSeqSlot fi)) = pure false
    rw [PySem.F.slot_list_iadd.lookup]
    show (pure _ : Sem Bool) = pure false
    refine congrArg pure ?_
    decide +kernel
  have hsi : seqSlot? (.type "list") (dunderI "add") = pure (some (.builtin "list.__iadd__"))   := PySem.seqSlot_of PySem.F.slot_list_iadd.lookup (by decide +kernel)
  refine wpAny_bind (wpAny_typeOf ha (wpAny_bind (wpAny_of_eq hfi ?_)))
  show wpAny _ A (if false = true then _ else _) Q E s
  rw [if_neg Bool.false_ne_true]
  refine wpAny_bind (wpAny_binaryOp1_none (nm := "add") ha hbT noFill_list_add ?_)
  refine wpAny_bind (wpAny_of_eq hsi ?_)
  refine wpAny_bind (wpAny_rule ?_)
  refine call_meets PySem.F.slot_list_iadd ha PySem.F.entry_list_iadd (PySem.F.args_list_iadd_2 _ _) (PySem.AutoSeq1.list___iadd___list_list_0 a xs n b ys n2 (by simp [hl]) (by omega) (by omega)) ⟨z.1, (N _ hb).1, h _ (F.change (Heap.SameBut.update ..) z.2.1 z.2.2) (kl_turn _ N h1 h2 rfl ?_)⟩
  rw [Array.size_append]
  omega
noncomputable def InConcat (a b : Nat) : Prop := b ≠ 0 ∧ a ≤ 1000 ∧ b ≤ 1000
local macro_rules | `(tactic| walk_at "call builtin:hasattr") => `(tactic| walk_at "H")
local macro_rules | `(tactic| walk_at "inplaceOp Add ref") => `(tactic| walk_at "H")
theorem xor_spec (w : World) (a b : Int) (t u : Tok) : Spec w 4 32 64 [.int a t, .int b u] [] [] (fun _ r n' => n' = [] ∧ ∃ t', r = .int (Builtin.bitXor a b) t') := by
  ((refine' Spec.enter ?ho ?hcd ?hbind ?hloc ?c2 ?c3 ?c4 ?c5 ?hdd ?_); (case ho => k_is); (case hcd => k_is); (case hbind => first | exact (fun _ _ => BindsTo.of_eq rfl) | (intro _ hX; exact binds_K hX rfl (by k_is) rfl rfl rfl)); (case hloc => exact locs rfl); (case c2 => exact rfl); (case c3 => exact rfl); (case c4 => exact rfl); (case c5 => decide); (case hdd => decide); skip)
  intro loose mean mg mb dp un gd outer A₀ base g L h₁ s Q tk hB hF hX hN hT hd hu hG hQ
  (try dsimp only); (try k_fold)
  (repeat' (first | (unfold Hold; first | ((with_reducible show wpAny _ _ (inplaceOp Operator.Add (Value.ref _) _) _ _ _); first | (with_reducible ((with_reducible rename Fr _ _ _ _ => FF); (with_reducible rename News _ _ _ _ => NN); (with_reducible rename InConcat _ _ => hIC); k_dflt (refine' iadd_lists (pre := [_]) FF NN ?k3 ?k4 ?k5 ?k6 ?k7 ?k8 ?_); (case k3 => k_mem); (case k4 => k_all); (case k5 => k_all); (case k6 => exact hIC.1); (case k7 => exact hIC.2.1); (case k8 => exact hIC.2.2); clear FF NN; intro h' F' N')) | ((with_reducible rename Fr _ _ _ _ => FF); (with_reducible rename News _ _ _ _ => NN); (with_reducible rename InConcat _ _ => hIC); k_dflt (refine' iadd_lists (pre := [_]) FF NN ?k3 ?k4 ?k5 ?k6 ?k7 ?k8 ?_); (case k3 => k_mem); (case k4 => k_all); (case k5 => k_all); (case k6 => exact hIC.1); (case k7 => exact hIC.2.1); (case k8 => exact hIC.2.2); clear FF NN; intro h' F' N')) | ((with_reducible show wpAny _ _ (call (Value.builtin "hasattr") _ _) _ _ _); first | (with_reducible (k_dflt (refine' has_led ?k1 ?k2 ?k3 ?_; (case k1 => k_asm); (case k2 => k_asm); (case k3 => k_mem)); intro q' h' F' N' l1; (try k_lt l1))) | (k_dflt (refine' has_led ?k1 ?k2 ?k3 ?_; (case k1 => k_asm); (case k2 => k_asm); (case k3 => k_mem)); intro q' h' F' N' l1; (try k_lt l1))) | (have hz9 : NoHalt := ⟨⟩; walk1; all_goals (try clear hz9))) | (k_unfold; (try dsimp only)) | (k_end; wrow_close) | walk1 | (dsimp only; walk1) | (leave1; walk_say "STEP leave1"; try dsimp only) | fail "no step"))
  exact hQ _ _ _ _ _ (Flow.ret _) rfl (by k_asm) (by k_asm) ⟨rfl, _, rfl⟩
theorem iconcat_spec (w : World) (A B : Nat) (xs ys : Array Value) (n m : Nat) (hAB : A ≠ B) (hIC : InConcat xs.size ys.size) : Spec w 8 64 92 [.ref A, .ref B] [] [(A, listOf xs n), (B, listOf ys m)] (fun _ r n' => r = .ref A ∧ ∃ n1, n' = [(A, listOf (xs ++ ys) n1), (B, listOf ys m)]) := by
  ((refine' Spec.enter ?ho ?hcd ?hbind ?hloc ?c2 ?c3 ?c4 ?c5 ?hdd ?_); (case ho => k_is); (case hcd => k_is); (case hbind => first | exact (fun _ _ => BindsTo.of_eq rfl) | (intro _ hX; exact binds_K hX rfl (by k_is) rfl rfl rfl)); (case hloc => exact locs rfl); (case c2 => exact rfl); (case c3 => exact rfl); (case c4 => exact rfl); (case c5 => decide); (case hdd => decide); skip)
  intro loose mean mg mb dp un gd outer A₀ base g L h₁ s Q tk hB hF hX hN hT hd hu hG hQ
  (try dsimp only); (try k_fold)
  (repeat' (first | (unfold Hold; first | ((with_reducible show wpAny _ _ (inplaceOp Operator.Add (Value.ref _) _) _ _ _); first | (with_reducible ((with_reducible rename Fr _ _ _ _ => FF); (with_reducible rename News _ _ _ _ => NN); (with_reducible rename InConcat _ _ => hIC); k_dflt (refine' iadd_lists (pre := [_]) FF NN ?k3 ?k4 ?k5 ?k6 ?k7 ?k8 ?_); (case k3 => k_mem); (case k4 => k_all); (case k5 => k_all); (case k6 => exact hIC.1); (case k7 => exact hIC.2.1); (case k8 => exact hIC.2.2); clear FF NN; intro h' F' N')) | ((with_reducible rename Fr _ _ _ _ => FF); (with_reducible rename News _ _ _ _ => NN); (with_reducible rename InConcat _ _ => hIC); k_dflt (refine' iadd_lists (pre := [_]) FF NN ?k3 ?k4 ?k5 ?k6 ?k7 ?k8 ?_); (case k3 => k_mem); (case k4 => k_all); (case k5 => k_all); (case k6 => exact hIC.1); (case k7 => exact hIC.2.1); (case k8 => exact hIC.2.2); clear FF NN; intro h' F' N')) | ((with_reducible show wpAny _ _ (call (Value.builtin "hasattr") _ _) _ _ _); first | (with_reducible (k_dflt (refine' has_led ?k1 ?k2 ?k3 ?_; (case k1 => k_asm); (case k2 => k_asm); (case k3 => k_mem)); intro q' h' F' N' l1; (try k_lt l1))) | (k_dflt (refine' has_led ?k1 ?k2 ?k3 ?_; (case k1 => k_asm); (case k2 => k_asm); (case k3 => k_mem)); intro q' h' F' N' l1; (try k_lt l1))) | (have hz9 : NoHalt := ⟨⟩; walk1; all_goals (try clear hz9))) | (k_unfold; (try dsimp only)) | (k_end; wrow_close) | walk1 | (dsimp only; walk1) | (leave1; walk_say "STEP leave1"; try dsimp only) | fail "no step"))
  dsimp only
  (with_reducible rename News _ _ _ _ => NN)
  exact hQ _ _ _ _ _ (Flow.ret _) rfl (by k_asm) (fun p hp => NN p (.tail _ hp)) ⟨rfl, _, rfl⟩
end
section
theorem iconcat_use {w : World} {A B : Nat} {xs ys : Array Value} {n n2 : Nat} {l : List Value} {news : Led} {gg : Obj → Led}
    {loose : List Str} {mean : ExcName → Option Value} {mg mb : Str → Option Value} {dp un : Nat} {gd : Option (List Code)} {cn : Str} {cs : Scope} {a : Addr} {ccd : Value} {cl : List (Str × Addr)} {outer : List Env} {A₀ : Around} {base h₀ : Heap} {L : Addr} {m : Str → Option Value} {s : Shared} {Q E : Value → Shared → Prop}
    (k1 : Below A₀ base outer h₀) (F : Fr h₀ L s.heap m) (X : (hd.heap_1 w.params).In h₀) (N : News h₀ L s.heap news) (T : Top view loose mean mg mb h₀) (hk : cs.kind = .function)
    (hd : dp + 8 < recursionLimit) (hu : un + 64 < cLine) (hb : (B, listOf ys n2) ∈ news) (e : xs.toList ++ ys.toList = l) (U : UpdF A (listOf xs n) news gg) (hAB : A ≠ B) (hne : ys.toList.length ≠ 0) (hl : l.length ≤ 1000)
    (h : ∀ h' tk' n1, Fr h₀ L h' m → News h₀ L h' (gg (listOf l.toArray n1)) → Q (.ref A) { s with heap := h', toks := tk' }) :
    wpAny (model Challenge.rw_wj0050_01.row.prog w) (ktrTop dp un gd cn cs L a ccd cl outer) (call (.ref 92) [.ref A, .ref B] []) Q E s := by
  obtain ⟨pre, post, rfl, hg, h1, h2⟩ := U.split
  have e' : xs ++ ys = l.toArray := by subst e; apply Array.toList_inj.mp; simp
  have hxy : xs.size + ys.size = l.length := by rw [← Array.size_append, e', List.size_toArray]
  refine Spec.use (iconcat_spec w A B xs ys n n2 hAB ⟨by simpa using hne, by omega, by omega⟩) ((pre ++ post).filter fun p => p.1 != B) k1 F X N T hk hd hu ?_ ?_ ?_ fun r h' tk' n' F' N' _ R' => ?_
  · intro p hp
    rcases List.mem_cons.mp hp with rfl | hp
    · exact List.mem_append.mpr (.inr (.head _))
    · rw [List.mem_singleton.mp hp]; exact hb
  · intro p hp
    rcases List.mem_append.mp (List.mem_filter.mp hp).1 with hp | hp
    · exact List.mem_append.mpr (.inl hp)
    · exact List.mem_append.mpr (.inr (.tail _ hp))
  · intro p hp hq
    obtain ⟨hp1, hp2⟩ := List.mem_filter.mp hp
    have : p.1 ≠ A := by
      rcases List.mem_append.mp hp1 with hp | hp
      · exact h1 p hp
      · exact h2 p hp
    simp at hq hp2
    exact hq.elim this hp2
  · obtain ⟨rfl, n1, rfl⟩ := R'
    rw [e'] at N'
    refine h h' tk' n1 F' ?_
    rw [hg]
    have side : ∀ p ∈ pre ++ post, h'.get? p.1 = some p.2 ∧ p.1 ≠ L ∧ h₀.get? p.1 = none := fun p hp => by
      by_cases q : p.1 = B
      · have hpn : p ∈ pre ++ (A, listOf xs n) :: post := (List.mem_append.mp hp).elim (fun h => List.mem_append.mpr (.inl h)) fun h => List.mem_append.mpr (.inr (.tail _ h))
        have z := N p hpn
        have z' := N _ hb
        have : p.2 = listOf ys n2 := Option.some.inj (z.1.symm.trans (by rw [q]; exact z'.1))
        have zz := N' (B, listOf ys n2) (.tail _ (.head _))
        rw [q, this]
        exact zz
      · exact N' p (List.mem_append.mpr (.inr (List.mem_filter.mpr ⟨hp, by simpa using q⟩)))
    intro p hp
    rcases List.mem_append.mp hp with hp | hp
    · exact side p (List.mem_append.mpr (.inl hp))
    · rcases List.mem_cons.mp hp with rfl | hp
      · exact N' _ (.head _)
      · exact side p (List.mem_append.mpr (.inr hp))
end
theorem updF_own {own r : Led} {d : Addr} {o : Obj} {g : Obj → Led} (U : UpdF d o r g) : ∀ {own : Led}, (∀ p ∈ own, p.1 ≠ d) → UpdF d o (own ++ r) (fun o' => own ++ g o')
  | [], _ => U
  | p :: own, h => .tail (h p (.head _)) (updF_own U (own := own) fun q hq => h q (.tail _ hq))
theorem own_two {own : Led} {a b d : Addr} (h : ∀ p ∈ own, p.1 ∈ [a, b]) (h1 : a ≠ d) (h2 : b ≠ d) : ∀ p ∈ own, p.1 ≠ d := fun p hp e => by
  have := h p hp
  rw [e] at this
  simp at this
  exact this.elim (fun q => h1 q.symm) fun q => h2 q.symm
end
theorem off_W15 : True := by
  w_top off
  trivial
section
theorem lt4 {i : Nat} (h : i < 4) : i = 0 ∨ i = 1 ∨ i = 2 ∨ i = 3 := (by decide : ∀ j : Fin 4, j.1 = 0 ∨ j.1 = 1 ∨ j.1 = 2 ∨ j.1 = 3) ⟨i, h⟩
/-- the list of images after i turns -/
noncomputable def imgs (f : Nat → Int) : Nat → List Int
  | 0 => [0]
  | i + 1 => imgs f i ++ (imgs f i).map fun x => Builtin.bitXor x (f i)
noncomputable def mOf (m0 m1 m2 m3 : Int) : Nat → Int
  | 0 => m0
  | 1 => m1
  | 2 => m2
  | _ => m3
noncomputable def ImgJ (X c T : Nat) (told : Obj) (f : Nat → Int) (I : Nat) (i : Nat) (m : Str → Option Value) (n : Led) (_ : Nat) : Prop :=
  X < I ∧ c < I ∧ T < I ∧ m (Str.ofString "images") = some (.ref X) ∧ m (Str.ofString "more") = some (.ref X) ∧ ∃ l k o v, IntsAre l (imgs f i) ∧ o.data = .cell v ∧ n = [(X, listOf l.toArray k), (c, o), (T, told)]
theorem ints_len : ∀ {l : List Value} {ns : List Int}, IntsAre l ns → l.length = ns.length
  | _, _, .nil => rfl
  | _, _, .cons _ _ r => congrArg (· + 1) (ints_len r)
theorem imgs_len (f : Nat → Int) (i : Nat) (hi : i < 4) : 1 ≤ (imgs f i).length ∧ (imgs f i).length ≤ 8 := by
  rcases lt4 (i := i) (by assumption) with rfl | rfl | rfl | rfl <;> simp [imgs]
section
local macro_rules | `(tactic| walk_at "exec For Name Name cons nil") => `(tactic| (k_here; refine halt ?_))
local macro_rules | `(tactic| walk_at "call ref") => `(tactic| walk_at "H")
local macro_rules | `(tactic| walk_at "eval Name") => `(tactic| (k_here; (with_reducible rename InTurn => hIT); k_dflt (refine' nameX_L ?k1 ?k2 ?_ ?k3 ?k4 ?k5; (case k3 => exact rfl); (case k4 => exact rfl); (case k5 => decide); (case k1 => k_asm); (case k2 => first | exact rfl | assumption); k_whole)))
theorem law_images_spec (w : World) (T : Nat) (m0 m1 m2 m3 : Int) (u0 u1 u2 u3 : Tok) (n : Nat) : SpecK w 32 256 294 [.ref T] [] [(T, listOf #[.int m0 u0, .int m1 u1, .int m2 u2, .int m3 u3] n)]
    (fun _ _ r n' => ∃ X l k, r = .ref X ∧ IntsAre l (imgs (mOf m0 m1 m2 m3) 4) ∧ n' = [(X, listOf l.toArray k), (T, listOf #[.int m0 u0, .int m1 u1, .int m2 u2, .int m3 u3] n)]) := by
  (refine' SpecK.enterC ?ho ?hcd ?hbind ?hkind ?hnd ?c2 ?c3 ?c4 ?hdd ?_); (case ho => k_is); (case hcd => k_is); (case hbind => exact (fun _ _ => BindsTo.of_eq rfl)); (case hkind => exact rfl); (case hnd => decide +kernel); (case c2 => exact rfl); (case c3 => exact rfl); (case c4 => exact rfl); (case hdd => decide)
  intro loose mean mg mb dp un gd outer A₀ base g L h₁ s Q tk cells hB hF hX hN hY hT hd hu hlt hG hQ
  (try k_lt hlt); k_cells hY; (try simp only [List.cons_append, List.nil_append] at hN)
  (try dsimp only); (try k_fold)
  (repeat' (first | (unfold Hold; first | ((with_reducible show wpAny _ _ (call (Value.ref 92) [Value.ref _, Value.ref _]) _ _ _); first | (with_reducible (k_dflt (refine' iconcat_use ?k1 ?k2 ?k3 ?k4 ?k5 ?kK ?kd ?ku ?m1 ?m2 ?m3 ?m4 ?m5 ?m6 ?_); ((case k1 => first | k_asm | fail "spec: the frames below"); (case k2 => first | k_asm | k_dflt assumption | fail "spec: the frame"); (case k3 => first | k_asm | fail "spec: the written part"); (case k4 => first | k_asm | k_dflt assumption | fail "spec: the ledger"); (case k5 => first | k_asm | fail "spec: the top's facts"); (case kK => first | exact rfl | assumption | fail "spec: the caller is no def"); (case kd => first | (with_reducible exact roomN (by assumption) (by decide)) | ktr_room | fail "spec: room"); (case ku => first | (with_reducible exact roomN (by assumption) (by decide)) | ktr_units | fail "spec: units")); (case m1 => k_dflt k_mem); (case m3 => k_dflt k_updF); (case m2 => k_dflt (exact rfl)); (case m4 => k_dflt k_ne); (case m5 => k_dflt ((with_reducible rename List.length _ = List.length (List.map _ _) => hLL); (rw [List.length_map] at hLL); simp only; omega)); (case m6 => k_dflt ((with_reducible rename List.length _ = List.length (List.map _ _) => hLL); (rw [List.length_map] at hLL); simp only [List.length_append]; omega)); intro h9 tk9 n9 F9 N9; (try dsimp only at N9); (try dsimp only); (try k_fold))) | (k_dflt (refine' iconcat_use ?k1 ?k2 ?k3 ?k4 ?k5 ?kK ?kd ?ku ?m1 ?m2 ?m3 ?m4 ?m5 ?m6 ?_); ((case k1 => first | k_asm | fail "spec: the frames below"); (case k2 => first | k_asm | k_dflt assumption | fail "spec: the frame"); (case k3 => first | k_asm | fail "spec: the written part"); (case k4 => first | k_asm | k_dflt assumption | fail "spec: the ledger"); (case k5 => first | k_asm | fail "spec: the top's facts"); (case kK => first | exact rfl | assumption | fail "spec: the caller is no def"); (case kd => first | (with_reducible exact roomN (by assumption) (by decide)) | ktr_room | fail "spec: room"); (case ku => first | (with_reducible exact roomN (by assumption) (by decide)) | ktr_units | fail "spec: units")); (case m1 => k_dflt k_mem); (case m3 => k_dflt k_updF); (case m2 => k_dflt (exact rfl)); (case m4 => k_dflt k_ne); (case m5 => k_dflt ((with_reducible rename List.length _ = List.length (List.map _ _) => hLL); (rw [List.length_map] at hLL); simp only; omega)); (case m6 => k_dflt ((with_reducible rename List.length _ = List.length (List.map _ _) => hLL); (rw [List.length_map] at hLL); simp only [List.length_append]; omega)); intro h9 tk9 n9 F9 N9; (try dsimp only at N9); (try dsimp only); (try k_fold))) | ((with_reducible show wpAny _ _ (call (Value.ref 64) [Value.int _ _, Value.int _ _]) _ _ _); first | (with_reducible (k_dflt (refine' Spec.use (xor_spec _ _ _ _ _) _ ?k1 ?k2 ?k3 ?k4 ?k5 ?kK ?kd ?ku (led_nil _) (led_self _) (led_none _) ?_); ((case k1 => first | k_asm | fail "spec: the frames below"); (case k2 => first | k_asm | k_dflt assumption | fail "spec: the frame"); (case k3 => first | k_asm | fail "spec: the written part"); (case k4 => first | k_asm | k_dflt assumption | fail "spec: the ledger"); (case k5 => first | k_asm | fail "spec: the top's facts"); (case kK => first | exact rfl | assumption | fail "spec: the caller is no def"); (case kd => first | (with_reducible exact roomN (by assumption) (by decide)) | ktr_room | fail "spec: room"); (case ku => first | (with_reducible exact roomN (by assumption) (by decide)) | ktr_units | fail "spec: units")); intro r9 h9 tk9 n9 F9 N9 _ R9; obtain ⟨e8, t9, e9⟩ := R9; subst e9; subst e8; (try simp only [List.nil_append, List.cons_append] at N9); (try dsimp only); (try k_fold))) | (k_dflt (refine' Spec.use (xor_spec _ _ _ _ _) _ ?k1 ?k2 ?k3 ?k4 ?k5 ?kK ?kd ?ku (led_nil _) (led_self _) (led_none _) ?_); ((case k1 => first | k_asm | fail "spec: the frames below"); (case k2 => first | k_asm | k_dflt assumption | fail "spec: the frame"); (case k3 => first | k_asm | fail "spec: the written part"); (case k4 => first | k_asm | k_dflt assumption | fail "spec: the ledger"); (case k5 => first | k_asm | fail "spec: the top's facts"); (case kK => first | exact rfl | assumption | fail "spec: the caller is no def"); (case kd => first | (with_reducible exact roomN (by assumption) (by decide)) | ktr_room | fail "spec: room"); (case ku => first | (with_reducible exact roomN (by assumption) (by decide)) | ktr_units | fail "spec: units")); intro r9 h9 tk9 n9 F9 N9 _ R9; obtain ⟨e8, t9, e9⟩ := R9; subst e9; subst e8; (try simp only [List.nil_append, List.cons_append] at N9); (try dsimp only); (try k_fold))) | (have hz9 : NoHalt := ⟨⟩; walk1; all_goals (try clear hz9))) | (k_unfold; (try dsimp only)) | (k_end; wrow_close) | walk1 | (dsimp only; walk1) | (leave1; walk_say "STEP leave1"; try dsimp only) | fail "no step"))
  unfold Halt
  (with_reducible rename Fr _ _ _ _ => FF)
  (with_reducible rename News _ _ _ _ => NN)
  rename_i X _ hXl _ _
  refine wpAny_For ?_
  walk1
  refine forList_C (its := #[.int m0 u0, .int m1 u1, .int m2 u2, .int m3 u3]) (k := n) rfl FF NN (by k_mem) (ImgJ X (L + 1) T (listOf #[.int m0 u0, .int m1 u1, .int m2 u2, .int m3 u3] n) (mOf m0 m1 m2 m3)) ?h0 ?Jmono ?Jmem ?step ?hR
  case h0 => exact fun I hI => ⟨hI _ (.head _), hI _ (.tail _ (.head _)), hI _ (.tail _ (.tail _ (.head _))), by exact rfl, rfl, _, _, _, _, .cons _ _ .nil, by assumption, rfl⟩
  case Jmono => exact fun _ _ _ _ _ _ _ h => h
  case Jmem =>
    rintro I i m n' t ⟨hx, hc, ht, _, _, l, k, o, v, _, _, rfl⟩
    refine ⟨by k_mem, fun p hp => ?_⟩
    simp only [List.mem_cons, List.mem_nil_iff, or_false] at hp
    rcases hp with rfl | rfl | rfl
    · exact Nat.ne_of_lt hx
    · exact Nat.ne_of_lt hc
    · exact Nat.ne_of_lt ht
  case step =>
    intro I oI i v m₁ n₁ h tk1 E' hi hv hsT hJ F1 N1
    obtain ⟨hx, hc, ht, e1, e2, l, k, o, v', hl, hov, rfl⟩ := hJ
    have hIT : InTurn := ⟨⟩
    have hi' : i < 4 := hi
    clear FF NN
    replace F1 : Fr g L h m₁ := F1
    replace N1 : News g L h _ := N1
    obtain ⟨u, rfl⟩ : ∃ u, v = .int (mOf m0 m1 m2 m3 i) u := by
      rcases lt4 (i := i) (by assumption) with rfl | rfl | rfl | rfl
      · exact ⟨u0, (Option.some.inj hv).symm⟩
      · exact ⟨u1, (Option.some.inj hv).symm⟩
      · exact ⟨u2, (Option.some.inj hv).symm⟩
      · exact ⟨u3, (Option.some.inj hv).symm⟩
    have hlen : (imgs (mOf m0 m1 m2 m3) i).length = l.length := (ints_len hl).symm
    have hlen2 : 1 ≤ (imgs (mOf m0 m1 m2 m3) i).length ∧ (imgs (mOf m0 m1 m2 m3) i).length ≤ 8 := imgs_len _ i hi'
    clear hv hi
    (repeat' (first | (unfold Hold; first | ((with_reducible show wpAny _ _ (call (Value.ref 92) [Value.ref _, Value.ref _]) _ _ _); first | (with_reducible (k_dflt (refine' iconcat_use ?k1 ?k2 ?k3 ?k4 ?k5 ?kK ?kd ?ku ?m1 ?m2 ?m3 ?m4 ?m5 ?m6 ?_); ((case k1 => first | k_asm | fail "spec: the frames below"); (case k2 => first | k_asm | k_dflt assumption | fail "spec: the frame"); (case k3 => first | k_asm | fail "spec: the written part"); (case k4 => first | k_asm | k_dflt assumption | fail "spec: the ledger"); (case k5 => first | k_asm | fail "spec: the top's facts"); (case kK => first | exact rfl | assumption | fail "spec: the caller is no def"); (case kd => first | (with_reducible exact roomN (by assumption) (by decide)) | ktr_room | fail "spec: room"); (case ku => first | (with_reducible exact roomN (by assumption) (by decide)) | ktr_units | fail "spec: units")); (case m1 => k_dflt k_mem); (case m3 => k_dflt k_updF); (case m2 => k_dflt (exact rfl)); (case m4 => k_dflt k_ne); (case m5 => k_dflt ((with_reducible rename List.length _ = List.length (List.map _ _) => hLL); (rw [List.length_map] at hLL); simp only; omega)); (case m6 => k_dflt ((with_reducible rename List.length _ = List.length (List.map _ _) => hLL); (rw [List.length_map] at hLL); simp only [List.length_append]; omega)); intro h9 tk9 n9 F9 N9; (try dsimp only at N9); (try dsimp only); (try k_fold))) | (k_dflt (refine' iconcat_use ?k1 ?k2 ?k3 ?k4 ?k5 ?kK ?kd ?ku ?m1 ?m2 ?m3 ?m4 ?m5 ?m6 ?_); ((case k1 => first | k_asm | fail "spec: the frames below"); (case k2 => first | k_asm | k_dflt assumption | fail "spec: the frame"); (case k3 => first | k_asm | fail "spec: the written part"); (case k4 => first | k_asm | k_dflt assumption | fail "spec: the ledger"); (case k5 => first | k_asm | fail "spec: the top's facts"); (case kK => first | exact rfl | assumption | fail "spec: the caller is no def"); (case kd => first | (with_reducible exact roomN (by assumption) (by decide)) | ktr_room | fail "spec: room"); (case ku => first | (with_reducible exact roomN (by assumption) (by decide)) | ktr_units | fail "spec: units")); (case m1 => k_dflt k_mem); (case m3 => k_dflt k_updF); (case m2 => k_dflt (exact rfl)); (case m4 => k_dflt k_ne); (case m5 => k_dflt ((with_reducible rename List.length _ = List.length (List.map _ _) => hLL); (rw [List.length_map] at hLL); simp only; omega)); (case m6 => k_dflt ((with_reducible rename List.length _ = List.length (List.map _ _) => hLL); (rw [List.length_map] at hLL); simp only [List.length_append]; omega)); intro h9 tk9 n9 F9 N9; (try dsimp only at N9); (try dsimp only); (try k_fold))) | ((with_reducible show wpAny _ _ (call (Value.ref 64) [Value.int _ _, Value.int _ _]) _ _ _); first | (with_reducible (k_dflt (refine' Spec.use (xor_spec _ _ _ _ _) _ ?k1 ?k2 ?k3 ?k4 ?k5 ?kK ?kd ?ku (led_nil _) (led_self _) (led_none _) ?_); ((case k1 => first | k_asm | fail "spec: the frames below"); (case k2 => first | k_asm | k_dflt assumption | fail "spec: the frame"); (case k3 => first | k_asm | fail "spec: the written part"); (case k4 => first | k_asm | k_dflt assumption | fail "spec: the ledger"); (case k5 => first | k_asm | fail "spec: the top's facts"); (case kK => first | exact rfl | assumption | fail "spec: the caller is no def"); (case kd => first | (with_reducible exact roomN (by assumption) (by decide)) | ktr_room | fail "spec: room"); (case ku => first | (with_reducible exact roomN (by assumption) (by decide)) | ktr_units | fail "spec: units")); intro r9 h9 tk9 n9 F9 N9 _ R9; obtain ⟨e8, t9, e9⟩ := R9; subst e9; subst e8; (try simp only [List.nil_append, List.cons_append] at N9); (try dsimp only); (try k_fold))) | (k_dflt (refine' Spec.use (xor_spec _ _ _ _ _) _ ?k1 ?k2 ?k3 ?k4 ?k5 ?kK ?kd ?ku (led_nil _) (led_self _) (led_none _) ?_); ((case k1 => first | k_asm | fail "spec: the frames below"); (case k2 => first | k_asm | k_dflt assumption | fail "spec: the frame"); (case k3 => first | k_asm | fail "spec: the written part"); (case k4 => first | k_asm | k_dflt assumption | fail "spec: the ledger"); (case k5 => first | k_asm | fail "spec: the top's facts"); (case kK => first | exact rfl | assumption | fail "spec: the caller is no def"); (case kd => first | (with_reducible exact roomN (by assumption) (by decide)) | ktr_room | fail "spec: room"); (case ku => first | (with_reducible exact roomN (by assumption) (by decide)) | ktr_units | fail "spec: units")); intro r9 h9 tk9 n9 F9 N9 _ R9; obtain ⟨e8, t9, e9⟩ := R9; subst e9; subst e8; (try simp only [List.nil_append, List.cons_append] at N9); (try dsimp only); (try k_fold))) | (have hz9 : NoHalt := ⟨⟩; walk1; all_goals (try clear hz9))) | (k_unfold; (try dsimp only)) | (k_end; wrow_close) | walk1 | (dsimp only; walk1) | (leave1; walk_say "STEP leave1"; try dsimp only) | fail "no step"))
    (with_reducible rename Fr _ _ _ _ => FF)
    (with_reducible rename News _ _ _ _ => NN)
    (with_reducible rename IntsAre _ (List.map _ _) => hI9)
    exact TurnC.intro FF (fun p hp => NN p (.tail _ hp)) fun _ => ⟨hx, hc, ht, (if_neg (by decide)).trans e1, rfl, _, _, _, _, hl.append hI9, by assumption, rfl⟩
  case hR =>
    intro I h' tk2 m' n' F' N' hJ hle
    obtain ⟨hx, hc, ht, e1, e2, l, k, o, v', hl, hov, rfl⟩ := hJ
    have hIT : InTurn := ⟨⟩
    dsimp only
    (repeat' (first | (unfold Hold; first | ((with_reducible show wpAny _ _ (call (Value.ref 92) [Value.ref _, Value.ref _]) _ _ _); first | (with_reducible (k_dflt (refine' iconcat_use ?k1 ?k2 ?k3 ?k4 ?k5 ?kK ?kd ?ku ?m1 ?m2 ?m3 ?m4 ?m5 ?m6 ?_); ((case k1 => first | k_asm | fail "spec: the frames below"); (case k2 => first | k_asm | k_dflt assumption | fail "spec: the frame"); (case k3 => first | k_asm | fail "spec: the written part"); (case k4 => first | k_asm | k_dflt assumption | fail "spec: the ledger"); (case k5 => first | k_asm | fail "spec: the top's facts"); (case kK => first | exact rfl | assumption | fail "spec: the caller is no def"); (case kd => first | (with_reducible exact roomN (by assumption) (by decide)) | ktr_room | fail "spec: room"); (case ku => first | (with_reducible exact roomN (by assumption) (by decide)) | ktr_units | fail "spec: units")); (case m1 => k_dflt k_mem); (case m3 => k_dflt k_updF); (case m2 => k_dflt (exact rfl)); (case m4 => k_dflt k_ne); (case m5 => k_dflt ((with_reducible rename List.length _ = List.length (List.map _ _) => hLL); (rw [List.length_map] at hLL); simp only; omega)); (case m6 => k_dflt ((with_reducible rename List.length _ = List.length (List.map _ _) => hLL); (rw [List.length_map] at hLL); simp only [List.length_append]; omega)); intro h9 tk9 n9 F9 N9; (try dsimp only at N9); (try dsimp only); (try k_fold))) | (k_dflt (refine' iconcat_use ?k1 ?k2 ?k3 ?k4 ?k5 ?kK ?kd ?ku ?m1 ?m2 ?m3 ?m4 ?m5 ?m6 ?_); ((case k1 => first | k_asm | fail "spec: the frames below"); (case k2 => first | k_asm | k_dflt assumption | fail "spec: the frame"); (case k3 => first | k_asm | fail "spec: the written part"); (case k4 => first | k_asm | k_dflt assumption | fail "spec: the ledger"); (case k5 => first | k_asm | fail "spec: the top's facts"); (case kK => first | exact rfl | assumption | fail "spec: the caller is no def"); (case kd => first | (with_reducible exact roomN (by assumption) (by decide)) | ktr_room | fail "spec: room"); (case ku => first | (with_reducible exact roomN (by assumption) (by decide)) | ktr_units | fail "spec: units")); (case m1 => k_dflt k_mem); (case m3 => k_dflt k_updF); (case m2 => k_dflt (exact rfl)); (case m4 => k_dflt k_ne); (case m5 => k_dflt ((with_reducible rename List.length _ = List.length (List.map _ _) => hLL); (rw [List.length_map] at hLL); simp only; omega)); (case m6 => k_dflt ((with_reducible rename List.length _ = List.length (List.map _ _) => hLL); (rw [List.length_map] at hLL); simp only [List.length_append]; omega)); intro h9 tk9 n9 F9 N9; (try dsimp only at N9); (try dsimp only); (try k_fold))) | ((with_reducible show wpAny _ _ (call (Value.ref 64) [Value.int _ _, Value.int _ _]) _ _ _); first | (with_reducible (k_dflt (refine' Spec.use (xor_spec _ _ _ _ _) _ ?k1 ?k2 ?k3 ?k4 ?k5 ?kK ?kd ?ku (led_nil _) (led_self _) (led_none _) ?_); ((case k1 => first | k_asm | fail "spec: the frames below"); (case k2 => first | k_asm | k_dflt assumption | fail "spec: the frame"); (case k3 => first | k_asm | fail "spec: the written part"); (case k4 => first | k_asm | k_dflt assumption | fail "spec: the ledger"); (case k5 => first | k_asm | fail "spec: the top's facts"); (case kK => first | exact rfl | assumption | fail "spec: the caller is no def"); (case kd => first | (with_reducible exact roomN (by assumption) (by decide)) | ktr_room | fail "spec: room"); (case ku => first | (with_reducible exact roomN (by assumption) (by decide)) | ktr_units | fail "spec: units")); intro r9 h9 tk9 n9 F9 N9 _ R9; obtain ⟨e8, t9, e9⟩ := R9; subst e9; subst e8; (try simp only [List.nil_append, List.cons_append] at N9); (try dsimp only); (try k_fold))) | (k_dflt (refine' Spec.use (xor_spec _ _ _ _ _) _ ?k1 ?k2 ?k3 ?k4 ?k5 ?kK ?kd ?ku (led_nil _) (led_self _) (led_none _) ?_); ((case k1 => first | k_asm | fail "spec: the frames below"); (case k2 => first | k_asm | k_dflt assumption | fail "spec: the frame"); (case k3 => first | k_asm | fail "spec: the written part"); (case k4 => first | k_asm | k_dflt assumption | fail "spec: the ledger"); (case k5 => first | k_asm | fail "spec: the top's facts"); (case kK => first | exact rfl | assumption | fail "spec: the caller is no def"); (case kd => first | (with_reducible exact roomN (by assumption) (by decide)) | ktr_room | fail "spec: room"); (case ku => first | (with_reducible exact roomN (by assumption) (by decide)) | ktr_units | fail "spec: units")); intro r9 h9 tk9 n9 F9 N9 _ R9; obtain ⟨e8, t9, e9⟩ := R9; subst e9; subst e8; (try simp only [List.nil_append, List.cons_append] at N9); (try dsimp only); (try k_fold))) | (have hz9 : NoHalt := ⟨⟩; walk1; all_goals (try clear hz9))) | (k_unfold; (try dsimp only)) | (k_end; wrow_close) | walk1 | (dsimp only; walk1) | (leave1; walk_say "STEP leave1"; try dsimp only) | fail "no step"))
    exact hQ _ _ _ _ [_, _] (Flow.ret _) rfl (by k_asm) (fun p hp => N' p (by rcases List.mem_cons.mp hp with rfl | hp; exact .head _; rw [List.mem_singleton.mp hp]; exact .tail _ (.tail _ (.head _)))) (fun hle => ⟨_, l, k, rfl, hl, rfl⟩)
end
end
theorem off_W16 : True := by
  w_top off
  trivial
section
theorem fold_if {p : Int → Bool} : ∀ (ks acc : List Int), List.foldl (fun l' k' => if p k' = true then l' ++ [k'] else if p k' = false then l' else l') acc ks = acc ++ ks.filter p
  | [], acc => by simp
  | k :: ks, acc => by
    rw [List.foldl_cons, fold_if ks, List.filter_cons]
    cases p k <;> simp
/-- the number of the lines that a list of images keeps -/
noncomputable def linesOf (ns : List Int) : Nat := ((rangeKs 1 15).filter fun k => [0, k].any fun x => x == ns.getD k.toNat 0).length
theorem lk1 {k : Int} (h : k < 1 + ((16 - 1 : Int).toNat : Int)) : k < 2 ^ 63 := Int.lt_trans h (by decide)
theorem lk2 {k : Int} {ns : List Int} (h : k < 1 + ((16 - 1 : Int).toNat : Int)) (hn : ns.length = 16) : k < ns.length := by rw [hn]; exact h
section
local macro_rules | `(tactic| omega) => `(tactic| (with_reducible first | exact lk1 (by assumption) | exact lk2 (by assumption) (by assumption) | fail))
theorem led_drop {h₀ h : Heap} {L : Addr} {q : Addr × Obj} {r : Led} (N : News h₀ L h (q :: r)) : News h₀ L h r := fun p hp => N p (.tail _ hp)
local macro_rules | `(tactic| walk_at "truthy bool") => `(tactic| walk_at "H")
theorem law_lines_spec (w : World) (X : Nat) (l : List Value) (ns : List Int) (k : Nat) (hl : IntsAre l ns) (hn : ns.length = 16) : SpecK w 16 128 309 [.ref X] [] [(X, listOf l.toArray k)]
    (fun _ _ r n' => (∃ t, r = .int (linesOf ns : Nat) t) ∧ n' = [(X, listOf l.toArray k)]) := by
  (refine' SpecK.enterC ?ho ?hcd ?hbind ?hkind ?hnd ?c2 ?c3 ?c4 ?hdd ?_); (case ho => k_is); (case hcd => k_is); (case hbind => exact (fun _ _ => BindsTo.of_eq rfl)); (case hkind => exact rfl); (case hnd => decide +kernel); (case c2 => exact rfl); (case c3 => exact rfl); (case c4 => exact rfl); (case hdd => decide)
  intro loose mean mg mb dp un gd outer A₀ base g L h₁ s Q tk cells hB hF hX hN hY hT hd hu hlt hG hQ
  (try k_lt hlt); k_cells hY; (try simp only [List.cons_append, List.nil_append] at hN)
  (try dsimp only); (try k_fold)
  (repeat' (first | (unfold Hold; first | ((with_reducible show wpAny _ _ (truthy _) _ _ _); first | (with_reducible ((with_reducible rename News _ _ _ ((_, listOf (List.toArray [_, _]) _) :: _) => NN); replace NN := led_drop NN)) | ((with_reducible rename News _ _ _ ((_, listOf (List.toArray [_, _]) _) :: _) => NN); replace NN := led_drop NN)) | (have hz9 : NoHalt := ⟨⟩; walk1; all_goals (try clear hz9))) | (k_unfold; (try dsimp only)) | (k_end; wrow_close) | walk1 | (dsimp only; walk1) | (leave1; walk_say "STEP leave1"; try dsimp only) | fail "no step"))
  (with_reducible rename News _ _ _ _ => NN)
  refine hQ _ _ _ _ _ (Flow.ret _) rfl (by k_asm) (led_drop (led_drop NN)) (fun _ => ⟨?_, rfl⟩)
  refine ⟨_, congrArg (fun z => Value.int z _) (congrArg (fun z : Nat => (z : Int)) ?_)⟩
  exact congrArg List.length ((fold_if (p := fun k => [0, k].any fun x => x == ns.getD k.toNat 0) (rangeKs 1 15) []).trans rfl)
end
end
theorem off_W18 : True := by
  w_top off
  trivial
section
section
theorem contains_spec (w : World) (A : Nat) (p0 p1 p2 p3 : Int) (t0 t1 t2 t3 : Tok) (k : Nat) (b : Int) (t : Tok) : Spec w 4 32 71 [.ref A, .int b t] [] [(A, listOf #[.int p0 t0, .int p1 t1, .int p2 t2, .int p3 t3] k)]
    (fun _ r n' => r = .bool ([p0, p1, p2, p3].any fun x => x == b) ∧ n' = [(A, listOf #[.int p0 t0, .int p1 t1, .int p2 t2, .int p3 t3] k)]) := by
  ((refine' Spec.enter ?ho ?hcd ?hbind ?hloc ?c2 ?c3 ?c4 ?c5 ?hdd ?_); (case ho => k_is); (case hcd => k_is); (case hbind => first | exact (fun _ _ => BindsTo.of_eq rfl) | (intro _ hX; exact binds_K hX rfl (by k_is) rfl rfl rfl)); (case hloc => exact locs rfl); (case c2 => exact rfl); (case c3 => exact rfl); (case c4 => exact rfl); (case c5 => decide); (case hdd => decide); skip)
  intro loose mean mg mb dp un gd outer A₀ base g L h₁ s Q tk hB hF hX hN hT hd hu hG hQ
  (try dsimp only); (try k_fold)
  k_steps
  exact hQ _ _ _ _ _ (Flow.ret _) rfl (by k_asm) (by k_asm) ⟨rfl, rfl⟩
theorem getitem_spec (w : World) (A : Nat) (l : List Value) (ns : List Int) (k : Nat) (b : Int) (t : Tok) (hl : IntsAre l ns) (hn : ns.length = 16) (hb : 0 ≤ b ∧ b ≤ 15) : Spec w 4 32 85 [.ref A, .int b t] [] [(A, listOf l.toArray k)]
    (fun _ r n' => (∃ t', r = .int (ns.getD b.toNat 0) t') ∧ n' = [(A, listOf l.toArray k)]) := by
  ((refine' Spec.enter ?ho ?hcd ?hbind ?hloc ?c2 ?c3 ?c4 ?c5 ?hdd ?_); (case ho => k_is); (case hcd => k_is); (case hbind => first | exact (fun _ _ => BindsTo.of_eq rfl) | (intro _ hX; exact binds_K hX rfl (by k_is) rfl rfl rfl)); (case hloc => exact locs rfl); (case c2 => exact rfl); (case c3 => exact rfl); (case c4 => exact rfl); (case c5 => decide); (case hdd => decide); skip)
  intro loose mean mg mb dp un gd outer A₀ base g L h₁ s Q tk hB hF hX hN hT hd hu hG hQ
  (try dsimp only); (try k_fold)
  k_steps
  exact hQ _ _ _ _ _ (Flow.ret _) rfl (by k_asm) (by k_asm) ⟨⟨_, rfl⟩, rfl⟩
end
end
theorem off_W17 : True := by
  w_top off
  trivial
section
noncomputable def Hid (P : Prop) : Prop := P
theorem and1_small (x : Int) : (Builtin.bitAnd x 1).natAbs < 2 ^ 64 := by
  rw [bitAnd_m1]; omega
/-- row i of the map with rows and columns exchanged -/
noncomputable def turnedOf (ns : List Int) (i : Nat) : Int := (List.map (fun k' : Int => Builtin.bitAnd ((ns.getD k'.toNat 0).fdiv (2 ^ (0 + (i : Int)).toNat)) 1 * 2 ^ k'.toNat) (rangeKs 0 (4 - 0 : Int).toNat)).sum
theorem four_list {V : Nat → Value → Prop} {ys : List Value} (hl : ys.length = 4) (hV : ∀ i y, ys[i]? = some y → V i y) : ∃ a b c d, ys = [a, b, c, d] ∧ V 0 a ∧ V 1 b ∧ V 2 c ∧ V 3 d := by
  cases ys with
  | nil => exact Nat.noConfusion hl
  | cons a ys => cases ys with
    | nil => exact Nat.noConfusion (Nat.succ.inj hl)
    | cons b ys => cases ys with
      | nil => exact Nat.noConfusion (Nat.succ.inj (Nat.succ.inj hl))
      | cons c ys => cases ys with
        | nil => exact Nat.noConfusion (Nat.succ.inj (Nat.succ.inj (Nat.succ.inj hl)))
        | cons d ys => cases ys with
          | nil => exact ⟨a, b, c, d, rfl, hV 0 a rfl, hV 1 b rfl, hV 2 c rfl, hV 3 d rfl⟩
          | cons e ys => exact Nat.noConfusion (Nat.succ.inj (Nat.succ.inj (Nat.succ.inj (Nat.succ.inj hl))))
section
local macro_rules | `(tactic| walk_at "CompEnd") => `(tactic| (k_here; (with_reducible rename Hid _ => h8); (with_reducible rename Hid _ => h9); unfold Hid at h8 h9; walk_at "CompEnd"))
local macro_rules | `(tactic| walk_at "subscriptTail Name Name ref int") => `(tactic| walk_at "H")
local macro_rules | `(tactic| walk_at "binaryOp LShift int int") => `(tactic| walk_at "H")
local macro_rules | `(tactic| walk_at "CellSrc") => `(tactic| (k_here; refine halt ?_))
theorem law_turned_spec (w : World) (X : Nat) (l : List Value) (ns : List Int) (k : Nat) (hl : IntsAre l ns) (hn : ns.length = 4) : SpecK w 16 128 299 [.ref X] [] [(X, listOf l.toArray k)]
    (fun _ _ r n' => ∃ Y t0 t1 t2 t3 k', r = .ref Y ∧ n' = [(Y, listOf #[.int (turnedOf ns 0) t0, .int (turnedOf ns 1) t1, .int (turnedOf ns 2) t2, .int (turnedOf ns 3) t3] k'), (X, listOf l.toArray k)]) := by
  (refine' SpecK.enterC ?ho ?hcd ?hbind ?hkind ?hnd ?c2 ?c3 ?c4 ?hdd ?_); (case ho => k_is); (case hcd => k_is); (case hbind => exact (fun _ _ => BindsTo.of_eq rfl)); (case hkind => exact rfl); (case hnd => decide +kernel); (case c2 => exact rfl); (case c3 => exact rfl); (case c4 => exact rfl); (case hdd => decide)
  intro loose mean mg mb dp un gd outer A₀ base g L h₁ s Q tk cells hB hF hX hN hY hT hd hu hlt hG hQ
  (try k_lt hlt); k_cells hY; (try simp only [List.cons_append, List.nil_append] at hN)
  (try dsimp only); (try k_fold)
  (repeat' (first | (unfold Hold; first | ((with_reducible show wpAny _ _ (binaryOp Operator.LShift (Value.int _ _) (Value.int _ _)) _ _ _); first | (with_reducible ((with_reducible rename _ < (0 : Int) + _ => hhi); (with_reducible refine' lshift_int_small ?kb1 ?kb2 ?kb3 ?_); (case kb1 => with_reducible assumption); (case kb2 => exact Int.le_trans (Int.le_of_lt hhi) (by decide)); (case kb3 => exact and1_small _))) | ((with_reducible rename _ < (0 : Int) + _ => hhi); (with_reducible refine' lshift_int_small ?kb1 ?kb2 ?kb3 ?_); (case kb1 => with_reducible assumption); (case kb2 => exact Int.le_trans (Int.le_of_lt hhi) (by decide)); (case kb3 => exact and1_small _))) | ((with_reducible show wpAny _ _ (subscriptTail _ _ (Value.ref _) (Value.int _ _)) _ _ _); first | (with_reducible ((with_reducible rename _ < (0 : Int) + _ => hhi); (with_reducible rename _ ≠ _ ∧ _ ≠ _ ∧ _ ≠ _ => hne); (with_reducible rename (_ ≠ _ ∧ _ ≠ _ ∧ _ ≠ _) ∧ _ => hoff); (with_reducible rename List.length _ = 4 => hn); replace hne : Hid _ := hne; replace hoff : Hid _ := hoff; (k_dflt refine' ksa_sub ?k1 ?k2 ?k3 ?k4 ?k5 ?k6 ?_ ?k7); (case k1 => k_asm); (case k2 => k_mem); (case k3 => with_reducible assumption); (case k4 => with_reducible assumption); (case k5 => exact Int.lt_of_lt_of_le hhi (by rw [hn]; decide)); (case k6 => exact Int.lt_of_lt_of_le hhi (by decide)); (case k7 => with_unfolding_all rfl); intro _; (try dsimp only); (try k_fold))) | ((with_reducible rename _ < (0 : Int) + _ => hhi); (with_reducible rename _ ≠ _ ∧ _ ≠ _ ∧ _ ≠ _ => hne); (with_reducible rename (_ ≠ _ ∧ _ ≠ _ ∧ _ ≠ _) ∧ _ => hoff); (with_reducible rename List.length _ = 4 => hn); replace hne : Hid _ := hne; replace hoff : Hid _ := hoff; (k_dflt refine' ksa_sub ?k1 ?k2 ?k3 ?k4 ?k5 ?k6 ?_ ?k7); (case k1 => k_asm); (case k2 => k_mem); (case k3 => with_reducible assumption); (case k4 => with_reducible assumption); (case k5 => exact Int.lt_of_lt_of_le hhi (by rw [hn]; decide)); (case k6 => exact Int.lt_of_lt_of_le hhi (by decide)); (case k7 => with_unfolding_all rfl); intro _; (try dsimp only); (try k_fold))) | (have hz9 : NoHalt := ⟨⟩; walk1; all_goals (try clear hz9))) | (k_unfold; (try dsimp only)) | (k_end; wrow_close) | walk1 | (dsimp only; walk1) | (leave1; walk_say "STEP leave1"; try dsimp only) | fail "no step"))
  (with_reducible rename News _ _ _ _ => NN)
  (with_reducible rename Fr _ _ _ _ => FF)
  refine ListComp_cell (n := 4) (a := 0) (fun i y => ∃ t, y = .int (turnedOf ns i) t) FF NN (by with_unfolding_all rfl) rfl (fun _ => rfl) (fun _ => rfl) (by decide) (by rfl) rfl (by decide) ?_
  (repeat' (first | (unfold Hold; first | ((with_reducible show wpAny _ _ (binaryOp Operator.LShift (Value.int _ _) (Value.int _ _)) _ _ _); first | (with_reducible ((with_reducible rename _ < (0 : Int) + _ => hhi); (with_reducible refine' lshift_int_small ?kb1 ?kb2 ?kb3 ?_); (case kb1 => with_reducible assumption); (case kb2 => exact Int.le_trans (Int.le_of_lt hhi) (by decide)); (case kb3 => exact and1_small _))) | ((with_reducible rename _ < (0 : Int) + _ => hhi); (with_reducible refine' lshift_int_small ?kb1 ?kb2 ?kb3 ?_); (case kb1 => with_reducible assumption); (case kb2 => exact Int.le_trans (Int.le_of_lt hhi) (by decide)); (case kb3 => exact and1_small _))) | ((with_reducible show wpAny _ _ (subscriptTail _ _ (Value.ref _) (Value.int _ _)) _ _ _); first | (with_reducible ((with_reducible rename _ < (0 : Int) + _ => hhi); (with_reducible rename _ ≠ _ ∧ _ ≠ _ ∧ _ ≠ _ => hne); (with_reducible rename (_ ≠ _ ∧ _ ≠ _ ∧ _ ≠ _) ∧ _ => hoff); (with_reducible rename List.length _ = 4 => hn); replace hne : Hid _ := hne; replace hoff : Hid _ := hoff; (k_dflt refine' ksa_sub ?k1 ?k2 ?k3 ?k4 ?k5 ?k6 ?_ ?k7); (case k1 => k_asm); (case k2 => k_mem); (case k3 => with_reducible assumption); (case k4 => with_reducible assumption); (case k5 => exact Int.lt_of_lt_of_le hhi (by rw [hn]; decide)); (case k6 => exact Int.lt_of_lt_of_le hhi (by decide)); (case k7 => with_unfolding_all rfl); intro _; (try dsimp only); (try k_fold))) | ((with_reducible rename _ < (0 : Int) + _ => hhi); (with_reducible rename _ ≠ _ ∧ _ ≠ _ ∧ _ ≠ _ => hne); (with_reducible rename (_ ≠ _ ∧ _ ≠ _ ∧ _ ≠ _) ∧ _ => hoff); (with_reducible rename List.length _ = 4 => hn); replace hne : Hid _ := hne; replace hoff : Hid _ := hoff; (k_dflt refine' ksa_sub ?k1 ?k2 ?k3 ?k4 ?k5 ?k6 ?_ ?k7); (case k1 => k_asm); (case k2 => k_mem); (case k3 => with_reducible assumption); (case k4 => with_reducible assumption); (case k5 => exact Int.lt_of_lt_of_le hhi (by rw [hn]; decide)); (case k6 => exact Int.lt_of_lt_of_le hhi (by decide)); (case k7 => with_unfolding_all rfl); intro _; (try dsimp only); (try k_fold))) | (have hz9 : NoHalt := ⟨⟩; walk1; all_goals (try clear hz9))) | (k_unfold; (try dsimp only)) | (k_end; wrow_close) | walk1 | (dsimp only; walk1) | (leave1; walk_say "STEP leave1"; try dsimp only) | fail "no step"))
  unfold Halt
  (with_reducible rename News _ _ _ _ => NN)
  (with_reducible rename Fr _ _ _ _ => FF)
  (with_reducible rename IsRange _ _ _ _ _ _ _ _ => RR)
  refine ⟨_, _, _, _, _, rfl, FF, NN, RR, by decide, by decide, ?step, ?fin⟩
  case fin =>
    intro D ys h' tk' hyl hV F9 N9 _
    obtain ⟨a, b, c, d, rfl, ⟨t0, rfl⟩, ⟨t1, rfl⟩, ⟨t2, rfl⟩, t3, rfl⟩ := four_list hyl hV
    refine hQ _ _ _ _ [(D, LCg.lst _), (X, _)] (Flow.ret _) rfl F9 (fun p hp => N9 p ?_) (fun _ => ⟨D, t0, t1, t2, t3, 4, rfl, rfl⟩)
    rcases List.mem_cons.mp hp with rfl | hp
    · exact .head _
    · rw [List.mem_singleton.mp hp]; exact .tail _ (.tail _ (.head _))
  case step =>
    intro i v I oI C oC D c oc ys h tk' E' hi hv hoc F1 N1 hlts hlt2
    obtain ⟨tv, rfl⟩ := hv
    clear FF NN RR
    (repeat' (first | (unfold Hold; first | ((with_reducible show wpAny _ _ (binaryOp Operator.LShift (Value.int _ _) (Value.int _ _)) _ _ _); first | (with_reducible ((with_reducible rename _ < (0 : Int) + _ => hhi); (with_reducible refine' lshift_int_small ?kb1 ?kb2 ?kb3 ?_); (case kb1 => with_reducible assumption); (case kb2 => exact Int.le_trans (Int.le_of_lt hhi) (by decide)); (case kb3 => exact and1_small _))) | ((with_reducible rename _ < (0 : Int) + _ => hhi); (with_reducible refine' lshift_int_small ?kb1 ?kb2 ?kb3 ?_); (case kb1 => with_reducible assumption); (case kb2 => exact Int.le_trans (Int.le_of_lt hhi) (by decide)); (case kb3 => exact and1_small _))) | ((with_reducible show wpAny _ _ (subscriptTail _ _ (Value.ref _) (Value.int _ _)) _ _ _); first | (with_reducible ((with_reducible rename _ < (0 : Int) + _ => hhi); (with_reducible rename _ ≠ _ ∧ _ ≠ _ ∧ _ ≠ _ => hne); (with_reducible rename (_ ≠ _ ∧ _ ≠ _ ∧ _ ≠ _) ∧ _ => hoff); (with_reducible rename List.length _ = 4 => hn); replace hne : Hid _ := hne; replace hoff : Hid _ := hoff; (k_dflt refine' ksa_sub ?k1 ?k2 ?k3 ?k4 ?k5 ?k6 ?_ ?k7); (case k1 => k_asm); (case k2 => k_mem); (case k3 => with_reducible assumption); (case k4 => with_reducible assumption); (case k5 => exact Int.lt_of_lt_of_le hhi (by rw [hn]; decide)); (case k6 => exact Int.lt_of_lt_of_le hhi (by decide)); (case k7 => with_unfolding_all rfl); intro _; (try dsimp only); (try k_fold))) | ((with_reducible rename _ < (0 : Int) + _ => hhi); (with_reducible rename _ ≠ _ ∧ _ ≠ _ ∧ _ ≠ _ => hne); (with_reducible rename (_ ≠ _ ∧ _ ≠ _ ∧ _ ≠ _) ∧ _ => hoff); (with_reducible rename List.length _ = 4 => hn); replace hne : Hid _ := hne; replace hoff : Hid _ := hoff; (k_dflt refine' ksa_sub ?k1 ?k2 ?k3 ?k4 ?k5 ?k6 ?_ ?k7); (case k1 => k_asm); (case k2 => k_mem); (case k3 => with_reducible assumption); (case k4 => with_reducible assumption); (case k5 => exact Int.lt_of_lt_of_le hhi (by rw [hn]; decide)); (case k6 => exact Int.lt_of_lt_of_le hhi (by decide)); (case k7 => with_unfolding_all rfl); intro _; (try dsimp only); (try k_fold))) | (have hz9 : NoHalt := ⟨⟩; walk1; all_goals (try clear hz9))) | (k_unfold; (try dsimp only)) | (k_end; wrow_close) | walk1 | (dsimp only; walk1) | (leave1; walk_say "STEP leave1"; try dsimp only) | fail "no step"))
    (with_reducible rename News _ _ _ _ => NE)
    exact EltEnd.intro (by k_asm) (fun p hp => NE p (.tail _ hp)) ⟨_, rfl⟩
end
end
theorem off_W19 : True := by
  w_top off
  trivial
section
/-- how many of a plane's points stay in it -/
noncomputable def insideOf (ns : List Int) (p1 p2 p3 : Int) : Nat := [p1, p2, p3].countP fun p => [0, p1, p2, p3].any fun x => x == ns.getD p.toNat 0
theorem count3 (b1 b2 b3 : Bool) : (List.range 3).countP (fun i => [b1, b2, b3].getD i false == true) = [b1, b2, b3].countP id := by
  cases b1 <;> cases b2 <;> cases b3 <;> rfl
theorem count3' {a1 a2 a3 : Int} {f : Int → Bool} : [f a1, f a2, f a3].countP id = [a1, a2, a3].countP f := by
  simp only [List.countP_cons, List.countP_nil, id]
section
local macro_rules | `(tactic| walk_at "call ref") => `(tactic| walk_at "H")
local macro_rules | `(tactic| walk_at "CompSrc") => `(tactic| walk_at "H")
theorem law_inside_spec (w : World) (X P : Nat) (l : List Value) (ns : List Int) (k n : Nat) (p1 p2 p3 : Int) (t0 t1 t2 t3 : Tok) (hl : IntsAre l ns) (hn : ns.length = 16) (hb : (0 ≤ p1 ∧ p1 ≤ 15) ∧ (0 ≤ p2 ∧ p2 ≤ 15) ∧ 0 ≤ p3 ∧ p3 ≤ 15) (hXP : X < P) :
    SpecK w 32 256 304 [.ref X, .ref P] [] [(P, listOf #[.int 0 t0, .int p1 t1, .int p2 t2, .int p3 t3] n), (X, listOf l.toArray k)]
    (fun _ tk r n' => (∃ tc, r = .int (insideOf ns p1 p2 p3 : Nat) tc ∧ 0 < tc ∧ tc < tk) ∧ n' = [(P, listOf #[.int 0 t0, .int p1 t1, .int p2 t2, .int p3 t3] n), (X, listOf l.toArray k)]) := by
  (refine' SpecK.enterC ?ho ?hcd ?hbind ?hkind ?hnd ?c2 ?c3 ?c4 ?hdd ?_); (case ho => k_is); (case hcd => k_is); (case hbind => exact (fun _ _ => BindsTo.of_eq rfl)); (case hkind => exact rfl); (case hnd => decide +kernel); (case c2 => exact rfl); (case c3 => exact rfl); (case c4 => exact rfl); (case hdd => decide)
  intro loose mean mg mb dp un gd outer A₀ base g L h₁ s Q tk cells hB hF hX hN hY hT hd hu hlt hG hQ
  (try k_lt hlt); k_cells hY; (try simp only [List.cons_append, List.nil_append] at hN)
  (try dsimp only); (try k_fold)
  (repeat' (first | (first | (with_reducible rename And (And (Ne _ _) _) _ => hz9; have := hz9.1; have := hz9.2; clear hz9) | (with_reducible rename And (Ne _ _) _ => hz9; have := hz9.1; have := hz9.2; clear hz9)) | (unfold Hold; first | ((with_reducible show LCg.CompSrc _ _ _ _ _ _ _ _ _ _ _ _ _ _); first | (with_reducible (k_dflt (refine LCg.CompSrc.ledger (by rfl) (by k_asm) (by k_asm) (by k_mem) (by exact Nat.le_of_ble_eq_true rfl) ?_; intro g'; lcg_lit))) | (k_dflt (refine LCg.CompSrc.ledger (by rfl) (by k_asm) (by k_asm) (by k_mem) (by exact Nat.le_of_ble_eq_true rfl) ?_; intro g'; lcg_lit))) | ((with_reducible show wpAny _ _ (call (Value.ref 78) [Value.ref _, Value.bool _]) _ _ _); first | (with_reducible (refine halt ?_)) | (refine halt ?_)) | ((with_reducible show wpAny _ _ (call (Value.ref 85) [Value.ref _, Value.int _ _]) _ _ _); first | (with_reducible (k_dflt (refine' SpecK.useR (ps := [_]) (Ret := fun _ r => ∃ t', r = .int _ t') (getitem_spec _ _ _ _ _ _ _ ?ha ?hb ?hc).toK ?k1 ?k2 ?k3 ?k4 ?k5 ?kK ?kd ?ku ?s1 ?_); ((case k1 => first | k_asm | fail "spec: the frames below"); (case k2 => first | k_asm | k_dflt assumption | fail "spec: the frame"); (case k3 => first | k_asm | fail "spec: the written part"); (case k4 => first | k_asm | k_dflt assumption | fail "spec: the ledger"); (case k5 => first | k_asm | fail "spec: the top's facts"); (case kK => first | exact rfl | assumption | fail "spec: the caller is no def"); (case kd => first | (with_reducible exact roomN (by assumption) (by decide)) | ktr_room | fail "spec: room"); (case ku => first | (with_reducible exact roomN (by assumption) (by decide)) | ktr_units | fail "spec: units")); (case s1 => k_dflt ((intro p hp; (simp only [List.mem_cons, List.mem_nil_iff, or_false] at hp); (first | (rcases hp with rfl | rfl) | (rcases hp with rfl)); all_goals k_mem))); (case ha => k_dflt assumption); (case hb => k_dflt assumption); (case hc => omega); intro r9 h9 tk9 F9 N9 _ R9; obtain ⟨t9, e9⟩ := R9; subst e9; (try dsimp only); (try k_fold))) | (k_dflt (refine' SpecK.useR (ps := [_]) (Ret := fun _ r => ∃ t', r = .int _ t') (getitem_spec _ _ _ _ _ _ _ ?ha ?hb ?hc).toK ?k1 ?k2 ?k3 ?k4 ?k5 ?kK ?kd ?ku ?s1 ?_); ((case k1 => first | k_asm | fail "spec: the frames below"); (case k2 => first | k_asm | k_dflt assumption | fail "spec: the frame"); (case k3 => first | k_asm | fail "spec: the written part"); (case k4 => first | k_asm | k_dflt assumption | fail "spec: the ledger"); (case k5 => first | k_asm | fail "spec: the top's facts"); (case kK => first | exact rfl | assumption | fail "spec: the caller is no def"); (case kd => first | (with_reducible exact roomN (by assumption) (by decide)) | ktr_room | fail "spec: room"); (case ku => first | (with_reducible exact roomN (by assumption) (by decide)) | ktr_units | fail "spec: units")); (case s1 => k_dflt ((intro p hp; (simp only [List.mem_cons, List.mem_nil_iff, or_false] at hp); (first | (rcases hp with rfl | rfl) | (rcases hp with rfl)); all_goals k_mem))); (case ha => k_dflt assumption); (case hb => k_dflt assumption); (case hc => omega); intro r9 h9 tk9 F9 N9 _ R9; obtain ⟨t9, e9⟩ := R9; subst e9; (try dsimp only); (try k_fold))) | ((with_reducible show wpAny _ _ (call (Value.ref 71) [Value.ref _, Value.int _ _]) _ _ _); first | (with_reducible (k_dflt (refine' SpecK.useR (ps := [_]) (Ret := fun _ r => r = .bool _) (contains_spec _ _ _ _ _ _ _ _ _ _ _ _ _).toK ?k1 ?k2 ?k3 ?k4 ?k5 ?kK ?kd ?ku ?s1 ?_); ((case k1 => first | k_asm | fail "spec: the frames below"); (case k2 => first | k_asm | k_dflt assumption | fail "spec: the frame"); (case k3 => first | k_asm | fail "spec: the written part"); (case k4 => first | k_asm | k_dflt assumption | fail "spec: the ledger"); (case k5 => first | k_asm | fail "spec: the top's facts"); (case kK => first | exact rfl | assumption | fail "spec: the caller is no def"); (case kd => first | (with_reducible exact roomN (by assumption) (by decide)) | ktr_room | fail "spec: room"); (case ku => first | (with_reducible exact roomN (by assumption) (by decide)) | ktr_units | fail "spec: units")); (case s1 => k_dflt ((intro p hp; (simp only [List.mem_cons, List.mem_nil_iff, or_false] at hp); (first | (rcases hp with rfl | rfl) | (rcases hp with rfl)); all_goals k_mem))); intro r9 h9 tk9 F9 N9 _ R9; subst R9; (try dsimp only); (try k_fold))) | (k_dflt (refine' SpecK.useR (ps := [_]) (Ret := fun _ r => r = .bool _) (contains_spec _ _ _ _ _ _ _ _ _ _ _ _ _).toK ?k1 ?k2 ?k3 ?k4 ?k5 ?kK ?kd ?ku ?s1 ?_); ((case k1 => first | k_asm | fail "spec: the frames below"); (case k2 => first | k_asm | k_dflt assumption | fail "spec: the frame"); (case k3 => first | k_asm | fail "spec: the written part"); (case k4 => first | k_asm | k_dflt assumption | fail "spec: the ledger"); (case k5 => first | k_asm | fail "spec: the top's facts"); (case kK => first | exact rfl | assumption | fail "spec: the caller is no def"); (case kd => first | (with_reducible exact roomN (by assumption) (by decide)) | ktr_room | fail "spec: room"); (case ku => first | (with_reducible exact roomN (by assumption) (by decide)) | ktr_units | fail "spec: units")); (case s1 => k_dflt ((intro p hp; (simp only [List.mem_cons, List.mem_nil_iff, or_false] at hp); (first | (rcases hp with rfl | rfl) | (rcases hp with rfl)); all_goals k_mem))); intro r9 h9 tk9 F9 N9 _ R9; subst R9; (try dsimp only); (try k_fold))) | (have hz9 : NoHalt := ⟨⟩; walk1; all_goals (try clear hz9))) | (k_unfold; (try dsimp only)) | (k_end; wrow_close) | walk1 | (dsimp only; walk1) | (leave1; walk_say "STEP leave1"; try dsimp only) | fail "no step"))
  unfold Halt
  refine' SpecK.useR (ps := [_]) (Ret := fun tk r => ∃ tc, r = .int _ tc ∧ 0 < tc ∧ tc < tk) (count_list_spec w _ _ _ _ (fun i => [[0, p1, p2, p3].any fun x => x == ns.getD p1.toNat 0, [0, p1, p2, p3].any fun x => x == ns.getD p2.toNat 0, [0, p1, p2, p3].any fun x => x == ns.getD p3.toNat 0].getD i false == true) ?hz ?hc) ?k1 ?k2 ?k3 ?k4 ?k5 ?kK ?kd ?ku ?s1 ?_
  ((case k1 => first | k_asm | fail "spec: the frames below"); (case k2 => first | k_asm | k_dflt assumption | fail "spec: the frame"); (case k3 => first | k_asm | fail "spec: the written part"); (case k4 => first | k_asm | k_dflt assumption | fail "spec: the ledger"); (case k5 => first | k_asm | fail "spec: the top's facts"); (case kK => first | exact rfl | assumption | fail "spec: the caller is no def"); (case kd => first | (with_reducible exact roomN (by assumption) (by decide)) | ktr_room | fail "spec: room"); (case ku => first | (with_reducible exact roomN (by assumption) (by decide)) | ktr_units | fail "spec: units"))
  case s1 => (intro p hp; (simp only [List.mem_cons, List.mem_nil_iff, or_false] at hp); (first | (rcases hp with rfl | rfl) | (rcases hp with rfl)); all_goals k_mem)
  case hz => exact Nat.le_of_ble_eq_true rfl
  case hc =>
    intro i v hv
    match i, hv with
    | 0, hv => cases hv; exact CmpOk.bool
    | 1, hv => cases hv; exact CmpOk.bool
    | 2, hv => cases hv; exact CmpOk.bool
    | i + 3, hv => cases hv
  intro r9 h9 tk9 F9 N9 hle9 R9
  obtain ⟨tc, e9, h1, h2⟩ := R9
  subst e9
  refine hQ _ _ _ _ [_, _] (Flow.ret _) rfl F9 (fun p hp => N9 p ?_) (fun _ => ⟨⟨tc, ?_, h1, h2⟩, rfl⟩)
  · simp only [List.mem_cons, List.mem_nil_iff, or_false] at hp
    rcases hp with rfl | rfl <;> k_mem
  · exact congrArg (fun z : Nat => Value.int (z : Int) tc) ((count3 _ _ _).trans (count3' (f := fun p => [0, p1, p2, p3].any fun x => x == ns.getD p.toNat 0)))
end
end
theorem off_M1 : True := by
  w_top off
  trivial
section
/-- the map told by the images of 1, 2, 4 and 8 -/
noncomputable def mapN (a b c d x : Nat) : Nat := (if x.testBit 0 then a else 0) ^^^ (if x.testBit 1 then b else 0) ^^^ (if x.testBit 2 then c else 0) ^^^ (if x.testBit 3 then d else 0)
theorem ifx (p q : Bool) (a : Nat) : (if (p ^^ q) = true then a else 0) = (if p then a else 0) ^^^ (if q then a else 0) := by
  cases p <;> cases q <;> simp
theorem xor_left (a b c : Nat) : a ^^^ (b ^^^ c) = b ^^^ (a ^^^ c) := by rw [← Nat.xor_assoc, Nat.xor_comm a b, Nat.xor_assoc]
theorem mapN_xor (a b c d x y : Nat) : mapN a b c d (x ^^^ y) = mapN a b c d x ^^^ mapN a b c d y := by
  unfold mapN
  simp only [Nat.testBit_xor, ifx]
  simp only [Nat.xor_assoc, Nat.xor_comm, xor_left]
theorem mapN_lt {a b c d : Nat} (ha : a < 16) (hb : b < 16) (hc : c < 16) (hd : d < 16) (x : Nat) : mapN a b c d x < 16 := by
  have h : ∀ (p : Bool) {a : Nat}, a < 16 → (if p then a else 0) < 2 ^ 4 := fun p a h => by cases p <;> simp <;> omega
  exact Nat.xor_lt_two_pow (Nat.xor_lt_two_pow (Nat.xor_lt_two_pow (h _ ha) (h _ hb)) (h _ hc)) (h _ hd)
theorem mapN_zero (a b c d : Nat) : mapN a b c d 0 = 0 := by simp [mapN]
/-- bit k of each image, as a word -/
noncomputable def trN (a b c d k : Nat) : Nat := (if a.testBit k then 1 else 0) + ((if b.testBit k then 2 else 0) + ((if c.testBit k then 4 else 0) + (if d.testBit k then 8 else 0)))
theorem tr_bits (p q r s : Bool) : ((if p then 1 else 0) + ((if q then 2 else 0) + ((if r then 4 else 0) + (if s then 8 else 0))) : Nat).testBit 0 = p ∧ ((if p then 1 else 0) + ((if q then 2 else 0) + ((if r then 4 else 0) + (if s then 8 else 0))) : Nat).testBit 1 = q ∧ ((if p then 1 else 0) + ((if q then 2 else 0) + ((if r then 4 else 0) + (if s then 8 else 0))) : Nat).testBit 2 = r ∧ ((if p then 1 else 0) + ((if q then 2 else 0) + ((if r then 4 else 0) + (if s then 8 else 0))) : Nat).testBit 3 = s ∧ ((if p then 1 else 0) + ((if q then 2 else 0) + ((if r then 4 else 0) + (if s then 8 else 0))) : Nat) < 16 := by
  revert p q r s; decide
theorem trN_lt (a b c d k : Nat) : trN a b c d k < 16 := (tr_bits _ _ _ _).2.2.2.2
noncomputable def dotN (w u : Nat) : Bool := (w.testBit 0 && u.testBit 0) ^^ ((w.testBit 1 && u.testBit 1) ^^ ((w.testBit 2 && u.testBit 2) ^^ (w.testBit 3 && u.testBit 3)))
theorem dotN_comm (w u : Nat) : dotN w u = dotN u w := by unfold dotN; simp only [Bool.and_comm]
theorem tb_if (p : Bool) (a k : Nat) : (if p then a else 0).testBit k = (p && a.testBit k) := by cases p <;> simp
theorem xorAll (a0 a1 a2 a3 a4 a5 a6 a7 a8 a9 a10 a11 a12 a13 a14 a15 : Bool) : (a0 ^^ (a1 ^^ (a2 ^^ (a3 ^^ (a4 ^^ (a5 ^^ (a6 ^^ (a7 ^^ (a8 ^^ (a9 ^^ (a10 ^^ (a11 ^^ (a12 ^^ (a13 ^^ (a14 ^^ a15))))))))))))))) = (a0 ^^ (a4 ^^ (a8 ^^ (a12 ^^ (a1 ^^ (a5 ^^ (a9 ^^ (a13 ^^ (a2 ^^ (a6 ^^ (a10 ^^ (a14 ^^ (a3 ^^ (a7 ^^ (a11 ^^ a15))))))))))))))) := by
  have i1 : Std.Associative Bool.xor := ⟨Bool.xor_assoc⟩
  have i2 : Std.Commutative Bool.xor := ⟨Bool.xor_comm⟩
  ac_rfl
theorem dot_map (a b c d w x : Nat) : dotN w (mapN a b c d x) = dotN (mapN (trN a b c d 0) (trN a b c d 1) (trN a b c d 2) (trN a b c d 3) w) x := by
  unfold dotN mapN
  simp only [Nat.testBit_xor, tb_if]
  unfold trN
  simp only [(tr_bits _ _ _ _).1, (tr_bits _ _ _ _).2.1, (tr_bits _ _ _ _).2.2.1, (tr_bits _ _ _ _).2.2.2.1]
  generalize w.testBit 0 = w0
  generalize w.testBit 1 = w1
  generalize w.testBit 2 = w2
  generalize w.testBit 3 = w3
  generalize x.testBit 0 = x0
  generalize x.testBit 1 = x1
  generalize x.testBit 2 = x2
  generalize x.testBit 3 = x3
  simp only [Bool.and_xor_distrib_left, Bool.and_xor_distrib_right]
  simp only [Bool.and_comm, Bool.and_left_comm]
  simp only [Bool.xor_assoc]
  exact xorAll _ _ _ _ _ _ _ _ _ _ _ _ _ _ _ _
noncomputable def chi (b : Bool) : Int := if b then -1 else 1
noncomputable def sumI (xs : List Nat) (f : Nat → Int) : Int := xs.foldr (fun x a => f x + a) 0
theorem sumI_add (f g : Nat → Int) : ∀ xs : List Nat, sumI xs (fun x => f x + g x) = sumI xs f + sumI xs g
  | [] => rfl
  | x :: xs => by
    show (f x + g x) + sumI xs (fun x => f x + g x) = (f x + sumI xs f) + (g x + sumI xs g)
    rw [sumI_add f g xs]; omega
theorem sumI_zero : ∀ xs : List Nat, sumI xs (fun _ => 0) = 0
  | [] => rfl
  | _ :: xs => by show 0 + sumI xs (fun _ => 0) = 0; rw [sumI_zero xs]; rfl
theorem sumI_swap (f : Nat → Nat → Int) (ys : List Nat) : ∀ xs : List Nat, sumI xs (fun x => sumI ys (f x)) = sumI ys (fun y => sumI xs (fun x => f x y))
  | [] => (sumI_zero ys).symm
  | x :: xs => by
    show sumI ys (f x) + sumI xs (fun x => sumI ys (f x)) = sumI ys (fun y => f x y + sumI xs (fun x => f x y))
    rw [sumI_swap f ys xs, sumI_add]
theorem sumI_congr {f g : Nat → Int} : ∀ {xs : List Nat}, (∀ x ∈ xs, f x = g x) → sumI xs f = sumI xs g
  | [], _ => rfl
  | x :: xs, h => by
    show f x + sumI xs f = g x + sumI xs g
    rw [h x (.head _), sumI_congr fun y hy => h y (.tail _ hy)]
theorem sumI_count (c : Nat → Bool) : ∀ xs : List Nat, sumI xs (fun x => if c x = true then 16 else 0) = 16 * (xs.countP c : Nat)
  | [] => rfl
  | x :: xs => by
    show (if c x = true then 16 else 0) + sumI xs (fun x => if c x = true then 16 else 0) = _
    rw [sumI_count c xs, List.countP_cons]
    split <;> omega
theorem chi_sum : ∀ u < 16, sumI (List.range 16) (fun w => chi (dotN w u)) = if (u == 0) = true then 16 else 0 := by decide +kernel
/-- how many words a map leads to nought -/
noncomputable def kerN (f : Nat → Nat) : Nat := (List.range 16).countP fun x => f x == 0
theorem ker_dual {f g : Nat → Nat} (hf : ∀ x, f x < 16) (hg : ∀ x, g x < 16) (h : ∀ w x, dotN w (f x) = dotN (g w) x) : kerN f = kerN g := by
  have e1 := sumI_count (fun x => f x == 0) (List.range 16)
  have e2 := sumI_count (fun x => g x == 0) (List.range 16)
  have e3 : sumI (List.range 16) (fun x => if (f x == 0) = true then 16 else 0) = sumI (List.range 16) (fun x => sumI (List.range 16) fun w => chi (dotN w (f x))) :=
    sumI_congr fun x _ => (chi_sum (f x) (hf x)).symm
  have e4 : sumI (List.range 16) (fun x => if (g x == 0) = true then 16 else 0) = sumI (List.range 16) (fun x => sumI (List.range 16) fun w => chi (dotN w (g x))) :=
    sumI_congr fun x _ => (chi_sum (g x) (hg x)).symm
  have e5 : sumI (List.range 16) (fun x => sumI (List.range 16) fun w => chi (dotN w (f x))) = sumI (List.range 16) (fun x => sumI (List.range 16) fun w => chi (dotN w (g x))) := by
    rw [sumI_swap]
    refine sumI_congr fun w _ => sumI_congr fun x _ => ?_
    rw [h, dotN_comm]
  unfold kerN
  omega
/-- how many lines a map leads into themselves -/
noncomputable def linesN (f : Nat → Nat) : Nat := (List.range' 1 15).countP fun v => [0, v].any fun x => x == f v
theorem countP_or (p q : Nat → Bool) : ∀ xs : List Nat, (∀ x ∈ xs, ¬(p x = true ∧ q x = true)) → xs.countP (fun x => p x || q x) = xs.countP p + xs.countP q
  | [], _ => rfl
  | x :: xs, h => by
    rw [List.countP_cons, List.countP_cons, List.countP_cons, countP_or p q xs fun y hy => h y (.tail _ hy)]
    have := h x (.head _)
    cases hp : p x <;> cases hq : q x <;> simp_all <;> omega
theorem ker_from (f : Nat → Nat) (h0 : f 0 = 0) : kerN f = 1 + (List.range' 1 15).countP fun x => f x == 0 := by
  unfold kerN
  rw [show List.range 16 = 0 :: List.range' 1 15 from rfl, List.countP_cons, h0]
  simp; omega
theorem xor_eq_zero (a b : Nat) : (a ^^^ b == 0) = (b == a) := by
  rw [Bool.eq_iff_iff]
  simp only [beq_iff_eq]
  refine ⟨fun h => ?_, fun h => by rw [h]; exact Nat.xor_self a⟩
  have := congrArg (· ^^^ a) h
  simp only [Nat.zero_xor] at this
  rw [Nat.xor_comm a b, Nat.xor_assoc, Nat.xor_self, Nat.xor_zero] at this
  exact this
theorem lines_ker (f : Nat → Nat) (h0 : f 0 = 0) : linesN f + 2 = kerN f + kerN (fun x => f x ^^^ x) := by
  rw [ker_from f h0, ker_from (fun x => f x ^^^ x) (by simp [h0])]
  have : linesN f = (List.range' 1 15).countP (fun x => (f x == 0) || (f x ^^^ x == 0)) := by
    unfold linesN
    refine List.countP_congr fun x _ => ?_
    simp only [List.any_cons, List.any_nil, Bool.or_false, xor_eq_zero, Bool.or_eq_true, beq_iff_eq]
    constructor <;> rintro (h | h) <;> first | exact .inl h.symm | exact .inr h
  rw [this, countP_or]
  · omega
  · intro x hx ⟨h1, h2⟩
    rw [xor_eq_zero] at h2
    simp only [beq_iff_eq] at h1 h2
    have := List.mem_range'_1.mp hx
    omega
theorem dotN_xor (w a b : Nat) : dotN w (a ^^^ b) = (dotN w a ^^ dotN w b) := by
  unfold dotN
  simp only [Nat.testBit_xor, Bool.and_xor_distrib_left]
  simp only [Bool.xor_assoc, Bool.xor_comm, Bool.xor_left_comm]
/-- rows and columns exchanged: as many lines -/
theorem lines_turned (a b c d : Nat) (ha : a < 16) (hb : b < 16) (hc : c < 16) (hd : d < 16) :
    linesN (mapN (trN a b c d 0) (trN a b c d 1) (trN a b c d 2) (trN a b c d 3)) = linesN (mapN a b c d) := by
  have hf := mapN_lt ha hb hc hd
  have hg := mapN_lt (trN_lt a b c d 0) (trN_lt a b c d 1) (trN_lt a b c d 2) (trN_lt a b c d 3)
  have h1 := lines_ker (mapN a b c d) (mapN_zero _ _ _ _)
  have h2 := lines_ker (mapN (trN a b c d 0) (trN a b c d 1) (trN a b c d 2) (trN a b c d 3)) (mapN_zero _ _ _ _)
  have e1 : kerN (mapN a b c d) = kerN (mapN (trN a b c d 0) (trN a b c d 1) (trN a b c d 2) (trN a b c d 3)) := ker_dual hf hg (dot_map a b c d)
  have red : ∀ f : Nat → Nat, kerN (fun x => f x ^^^ x) = kerN (fun x => f (x % 16) ^^^ (x % 16)) := fun f => by
    unfold kerN
    refine List.countP_congr fun x hx => ?_
    dsimp only
    rw [Nat.mod_eq_of_lt (List.mem_range.mp hx)]
  have tbm : ∀ x k, k < 4 → (x % 16).testBit k = x.testBit k := fun x k hk => by
    rw [show 16 = 2 ^ 4 from rfl, Nat.testBit_mod_two_pow]; simp [hk]
  have dm1 : ∀ w x, dotN w (x % 16) = dotN w x := fun w x => by
    unfold dotN; rw [tbm _ 0 (by decide), tbm _ 1 (by decide), tbm _ 2 (by decide), tbm _ 3 (by decide)]
  have mm : ∀ a b c d x, mapN a b c d (x % 16) = mapN a b c d x := fun a b c d x => by
    unfold mapN; rw [tbm _ 0 (by decide), tbm _ 1 (by decide), tbm _ 2 (by decide), tbm _ 3 (by decide)]
  have e2 : kerN (fun x => mapN a b c d x ^^^ x) = kerN (fun x => mapN (trN a b c d 0) (trN a b c d 1) (trN a b c d 2) (trN a b c d 3) x ^^^ x) := by
    rw [red, red (mapN (trN a b c d 0) (trN a b c d 1) (trN a b c d 2) (trN a b c d 3))]
    refine ker_dual (fun x => Nat.xor_lt_two_pow (n := 4) (hf _) (Nat.mod_lt _ (by decide))) (fun x => Nat.xor_lt_two_pow (n := 4) (hg _) (Nat.mod_lt _ (by decide))) fun w x => ?_
    rw [dotN_xor, dotN_comm (_ ^^^ _) x, dotN_xor, mm, mm, dm1, dm1, dot_map, dotN_comm _ x, dotN_comm w x]
  omega
/-- the planes: two words, the third is their sum -/
noncomputable def uvs : List (Nat × Nat) := (List.range 15).flatMap fun i => ((List.range (14 - i)).map fun j => (i + 1, i + 2 + j)).filter fun p => decide (p.1 ^^^ p.2 > p.2)
noncomputable def insideN (f : Nat → Nat) (p : Nat × Nat) : Nat := [p.1, p.2, p.1 ^^^ p.2].countP fun q => [0, p.1, p.2, p.1 ^^^ p.2].any fun x => x == f q
theorem uvs_is : uvs = [(1, 2), (1, 4), (1, 6), (1, 8), (1, 10), (1, 12), (1, 14), (2, 4), (2, 5), (2, 8), (2, 9), (2, 12), (2, 13), (3, 4), (3, 5), (3, 8), (3, 9), (3, 12), (3, 13), (4, 8), (4, 9), (4, 10), (4, 11), (5, 8), (5, 9), (5, 10), (5, 11), (6, 8), (6, 9), (6, 10), (6, 11), (7, 8), (7, 9), (7, 10), (7, 11)] := by decide +kernel
theorem uvs_len : uvs.length = 35 := by rw [uvs_is]; rfl
theorem plane_words : ∀ p ∈ uvs, [p.1, p.2, p.1 ^^^ p.2] = (List.range' 1 15).filter (fun q => [p.1, p.2, p.1 ^^^ p.2].contains q) := by rw [uvs_is]; decide +kernel
theorem count_swap1 {α β : Type} (c : α → β → Bool) (x : α) (xs : List α) : ∀ ys : List β, ys.countP (c x) + (ys.map fun y => xs.countP fun x => c x y).sum = (ys.map fun y => (x :: xs).countP fun x => c x y).sum
  | [] => rfl
  | y :: ys => by
    rw [List.countP_cons, List.map_cons, List.sum_cons, List.map_cons, List.sum_cons, List.countP_cons, ← count_swap1 c x xs ys]
    omega
theorem count_swap {α β : Type} (c : α → β → Bool) (ys : List β) : ∀ xs : List α, (xs.map fun x => ys.countP (c x)).sum = (ys.map fun y => xs.countP fun x => c x y).sum
  | [] => by induction ys with
    | nil => rfl
    | cons y ys ih => rw [List.map_cons, List.sum_cons, ← ih]; rfl
  | x :: xs => by
    rw [List.map_cons, List.sum_cons, count_swap c ys xs]
    exact count_swap1 c x xs ys
theorem plane_count : ∀ q ∈ List.range' 1 15, ∀ y ∈ List.range 16, uvs.countP (fun p => ([0, p.1, p.2, p.1 ^^^ p.2].any fun x => x == y) && [p.1, p.2, p.1 ^^^ p.2].contains q) = if ([0, q].any fun x => x == y) = true then 7 else 1 := by rw [uvs_is]; decide +kernel
theorem sum_if (c : Nat → Bool) : ∀ xs : List Nat, (xs.map fun q => if c q = true then 7 else 1).sum = xs.length + 6 * xs.countP c
  | [] => rfl
  | x :: xs => by
    rw [List.map_cons, List.sum_cons, sum_if c xs, List.countP_cons, List.length_cons]
    split <;> omega
theorem inside_sum (f : Nat → Nat) (hf : ∀ x, f x < 16) : (uvs.map (insideN f)).sum = 15 + 6 * linesN f := by
  have e1 : uvs.map (insideN f) = uvs.map fun p => (List.range' 1 15).countP fun q => ([0, p.1, p.2, p.1 ^^^ p.2].any fun x => x == f q) && [p.1, p.2, p.1 ^^^ p.2].contains q := by
    refine List.map_congr_left fun p hp => ?_
    unfold insideN
    generalize hg : (fun q => [0, p.1, p.2, p.1 ^^^ p.2].any fun x => x == f q) = g
    rw [plane_words p hp, List.countP_filter, ← plane_words p hp]
    subst hg
    rfl
  rw [e1, count_swap]
  have e2 : ((List.range' 1 15).map fun q => uvs.countP fun p => ([0, p.1, p.2, p.1 ^^^ p.2].any fun x => x == f q) && [p.1, p.2, p.1 ^^^ p.2].contains q) = (List.range' 1 15).map fun q => if ([0, q].any fun x => x == f q) = true then 7 else 1 :=
    List.map_congr_left fun q hq => plane_count q hq (f q) (List.mem_range.mpr (hf q))
  rw [e2, sum_if (fun q => [0, q].any fun x => x == f q)]
  rfl
theorem plane_closed : ∀ p ∈ uvs, ∀ a ∈ [0, p.1, p.2, p.1 ^^^ p.2], ∀ b ∈ [0, p.1, p.2, p.1 ^^^ p.2], a ^^^ b ∈ [0, p.1, p.2, p.1 ^^^ p.2] := by rw [uvs_is]; decide +kernel
theorem any_mem (l : List Nat) (y : Nat) : (l.any fun x => x == y) = true ↔ y ∈ l := by
  simp
theorem inside_three (f : Nat → Nat) (hx : ∀ x y, f (x ^^^ y) = f x ^^^ f y) : ∀ p ∈ uvs, insideN f p = 0 ∨ insideN f p = 1 ∨ insideN f p = 3 := by
  intro p hp
  have hcl := plane_closed p hp
  unfold insideN
  rw [List.countP_cons, List.countP_cons, List.countP_cons, List.countP_nil, hx]
  simp only [any_mem]
  have h1 : f p.1 ∈ [0, p.1, p.2, p.1 ^^^ p.2] → f p.2 ∈ [0, p.1, p.2, p.1 ^^^ p.2] → f p.1 ^^^ f p.2 ∈ [0, p.1, p.2, p.1 ^^^ p.2] := fun h h' => hcl _ h _ h'
  have h2 : f p.1 ∈ [0, p.1, p.2, p.1 ^^^ p.2] → f p.1 ^^^ f p.2 ∈ [0, p.1, p.2, p.1 ^^^ p.2] → f p.2 ∈ [0, p.1, p.2, p.1 ^^^ p.2] := fun h h' => by
    have := hcl _ h _ h'
    rwa [← Nat.xor_assoc, Nat.xor_self, Nat.zero_xor] at this
  have h3 : f p.2 ∈ [0, p.1, p.2, p.1 ^^^ p.2] → f p.1 ^^^ f p.2 ∈ [0, p.1, p.2, p.1 ^^^ p.2] → f p.1 ∈ [0, p.1, p.2, p.1 ^^^ p.2] := fun h h' => by
    have := hcl _ h' _ h
    rwa [Nat.xor_assoc, Nat.xor_self, Nat.xor_zero] at this
  by_cases c1 : f p.1 ∈ [0, p.1, p.2, p.1 ^^^ p.2] <;> by_cases c2 : f p.2 ∈ [0, p.1, p.2, p.1 ^^^ p.2] <;> by_cases c3 : f p.1 ^^^ f p.2 ∈ [0, p.1, p.2, p.1 ^^^ p.2]
  all_goals first
    | exact absurd (h1 c1 c2) c3
    | exact absurd (h2 c1 c3) c2
    | exact absurd (h3 c2 c3) c1
    | simp only [c1, c2, c3, if_true, if_false]; decide
theorem three_counts : ∀ l : List Nat, (∀ x ∈ l, x = 0 ∨ x = 1 ∨ x = 3) → l.countP (· == 0) + l.countP (· == 1) + l.countP (· == 3) = l.length ∧ l.countP (· == 1) + 3 * l.countP (· == 3) = l.sum
  | [], _ => ⟨rfl, rfl⟩
  | x :: l, h => by
    have ih := three_counts l fun y hy => h y (.tail _ hy)
    rw [List.countP_cons, List.countP_cons, List.countP_cons, List.length_cons, List.sum_cons]
    rcases h x (.head _) with rfl | rfl | rfl <;> simp <;> omega
/-- the law's numbers -/
theorem plane_law (a b c d : Nat) (ha : a < 16) (hb : b < 16) (hc : c < 16) (hd : d < 16) :
    (((uvs.map (insideN (mapN a b c d))).countP (· == 1) : Nat) : Int) = 15 + 6 * (linesN (mapN a b c d) : Nat) - 3 * ((uvs.map (insideN (mapN a b c d))).countP (· == 3) : Nat) ∧
    (((uvs.map (insideN (mapN a b c d))).countP (· == 0) : Nat) : Int) = 20 - 6 * (linesN (mapN a b c d) : Nat) + 2 * ((uvs.map (insideN (mapN a b c d))).countP (· == 3) : Nat) := by
  have h1 := inside_sum (mapN a b c d) (mapN_lt ha hb hc hd)
  have h2 := three_counts (uvs.map (insideN (mapN a b c d))) (by
    intro x hx
    obtain ⟨p, hp, rfl⟩ := List.mem_map.mp hx
    exact inside_three _ (mapN_xor a b c d) p hp)
  rw [List.length_map, uvs_len] at h2
  omega
end
theorem off_T10 : True := by
  w_top off
  trivial
section
open PyProof.Rows.LCg in
/-- where the loop of a comprehension begins: its source is had, its list and its names are made -/
noncomputable def CompGo (prog : Program) (w : World) (A : Around) (h₀ : Heap) (L : Addr) (m : Str → Option Value) (env : Env) (e : Expr) (scope : Scope) (cl : List (Str × Addr)) (Fin : Shared → Addr → List Value → Led → Nat → Prop) (it : Value) (s₂ : Shared) : Prop :=
  ∃ I news, it = .ref I ∧ Fr h₀ L s₂.heap m ∧ News h₀ L s₂.heap news ∧ I < s₂.heap.objs.size ∧
    (∀ (h : Heap) (tk : Nat) (Q E : Value → Shared → Prop), (∀ b o, s₂.heap.get? b = some o → h.get? b = some o) → Q (.ref I) { s₂ with heap := h, toks := tk } → wpAny (model prog w) A (pyIter (.ref I)) Q E { s₂ with heap := h, toks := tk }) ∧
    ∀ (D C : Addr) (oC : Obj) (h : Heap) (tk : Nat) (RR : Result → Shared → Prop), (∀ p ∈ news, p.1 < D) → I < D → L < D → D < C → h₀.get? D = none → h₀.get? C = none → s₂.toks ≤ tk → (∀ b o, s₂.heap.get? b = some o → h.get? b = some o) → NsObj oC (fun _ => none) → Fr h₀ L h m → News h₀ L h ((C, oC) :: (D, lst []) :: news) →
      (∀ h' tk' ys news' oC' m', tk ≤ tk' → Fr h₀ L h' m → NsObj oC' m' → News h₀ L h' ((C, oC') :: (D, lst ys) :: news') → (∀ p ∈ (D, lst ys) :: news', p.1 ≠ C) → Fin s₂ D ys news' tk' → RR (.ok .next) { s₂ with heap := h', toks := tk' }) →
      codeAny (model prog w) A (.compLoop e 0 (.ref I) (.ref D) (compEnvC scope cl C env)) RR { s₂ with heap := h, toks := tk }
/-- the list is given its name -/
noncomputable def FinT (h₀ : Heap) (L : Addr) (m : Str → Option Value) (y : Str) (Q : Flow → Shared → Prop) (s₂ : Shared) (D : Addr) (ys : List Value) (news : Led) (tk : Nat) : Prop :=
  ∀ h tk', tk ≤ tk' → Fr h₀ L h (fun z => if z = y then some (.ref D) else m z) → News h₀ L h ((D, LCg.lst ys) :: news) → Q .next { s₂ with heap := h, toks := tk' }
section
open PyProof.Rows.LCg
variable {prog : Program} {w : World} {A : Around} {E : Value → Shared → Prop} {s : Shared} {h₀ : Heap} {L : Addr} {m : Str → Option Value} {env : Env}
theorem Assign_comp {elt target iter : Expr} {ifs : List Expr} {rest : List Comprehension} {y : Str} {py : Pos} {scope : Scope} {cl : List (Str × Addr)} {pos spos : Pos} {Q : Flow → Shared → Prop} (_F₀ : Fr h₀ L s.heap m) (hLe : env.locals = L)
    (hsw : swapsWith (.ListComp elt (⟨target, iter, ifs, 0⟩ :: rest) scope pos) (some (.Name y py)) spos.line env = pure true)
    (hclos : closureFor scope env = pure cl) (hcell : ∀ z ∈ scope.names, z.2 ≠ .cell) (hkind : scope.kind = .function)
    (hnames : ∀ z ∈ scope.names, z.2 = .local → scope.names.lookup z.1 = some .local)
    (hy : env.kindOf y = some .local) (hp : (env.scope.kind == .class || (env.scope.kind == .module && env.locals != env.globals)) = false)
    (h : wpAny (model prog w) A (eval iter env) (fun xv s₁ => wpAny (model prog w) A (pyIter xv) (CompGo prog w A h₀ L m env (.ListComp elt (⟨target, iter, ifs, 0⟩ :: rest) scope pos) scope cl (FinT h₀ L m y Q)) E s₁) E s)
    (hs : ∀ x, foldedSetIterable iter env x = pure x := by intro _; rfl) :
    wpAny (model prog w) A (exec (.Assign [.Name y py] (.ListComp elt (⟨target, iter, ifs, 0⟩ :: rest) scope pos) spos) env) Q E s := by
  subst hLe
  rw [exec_Assign_Name_used _ _ _ _ hsw]
  refine wpAny_bind (wpAny_standAt (wpAny_bind ?_))
  show wpAny _ A (do let _ ← comprehension (.ListComp elt (⟨target, iter, ifs, 0⟩ :: rest) scope pos) scope env _ (newList []) false (eval iter env) (some (assign (.Name y py) env))) _ _ s
  refine wpAny_bind (wpAny_mono (wpAny_comprehension_free (use := some (assign (.Name y py) env)) (Q := fun _ s' => Q .next s') rfl hs hclos hkind hnames
    (wpAny_mono h (fun xv s₁ h₁ => wpAny_mono h₁ (fun it s₂ h₂ => ?_) fun _ _ e => e) fun _ _ e => e)) (fun _ s' hq => wpAny_pure (wpAny_pure hq)) fun _ _ e => e)
  obtain ⟨I, news, rfl, F, N, hI, self, go⟩ := h₂
  refine wpAny_newObj_type (wpAny_newFunctionEnv hcell (by intro y hy; simp at hy) (fun h₁ hns₁ hsb₁ => ?_) hkind)
  dsimp only at hns₁ hsb₁ ⊢
  generalize hH2 : s₂.heap.push { cls := .type "list", dict := none, data := .seq ([] : List Value).toArray } = H2 at hns₁ hsb₁ ⊢
  have hC : H2.objs.size = s₂.heap.objs.size + 1 := by rw [← hH2, Heap.size_push]
  have hDC : s₂.heap.objs.size ≠ H2.objs.size := by rw [hC]; exact Nat.ne_of_lt (Nat.lt_succ_self _)
  have below : ∀ b, b < s₂.heap.objs.size → b ≠ H2.objs.size ∧ b ≠ s₂.heap.objs.size := fun b hb => ⟨by rw [hC]; exact Nat.ne_of_lt (Nat.lt_succ_of_lt hb), Nat.ne_of_lt hb⟩
  have old : ∀ b o, s₂.heap.get? b = some o → h₁.get? b = some o := fun b o e => hsb₁.extBut b o (below b (Heap.lt_size e)).1 (Heap.get?_push_of_some _ (hH2 ▸ Heap.get?_push_of_some _ e))
  have hacc : h₁.get? s₂.heap.objs.size = some (lst []) := hsb₁.extBut _ _ hDC (Heap.get?_push_of_some _ (hH2 ▸ Heap.get?_push_size _ rfl))
  have fresh₀ : ∀ a, s₂.heap.objs.size ≤ a → h₀.get? a = none := fun a ha => by
    cases e : h₀.get? a with
    | none => rfl
    | some o' => exact absurd (Heap.lt_size (F.keep a o' e)) (Nat.not_lt.mpr ha)
  have hD₀ : h₀.get? s₂.heap.objs.size = none := fresh₀ _ (Nat.le_refl _)
  have hC₀ : h₀.get? H2.objs.size = none := fresh₀ _ (by rw [hC]; exact Nat.le_succ _)
  have hLlt : env.locals < s₂.heap.objs.size := F.ns.lt
  have hDL : s₂.heap.objs.size ≠ env.locals := Ne.symm (below _ hLlt).2
  have hCL : H2.objs.size ≠ env.locals := Ne.symm (below _ hLlt).1
  obtain ⟨oC, heC, hoC⟩ := ns_obj hns₁
  have loop : ∀ s₃ : Shared, s₃ = { s₂ with heap := h₁, toks := s₂.toks + ([] : List (Str × Value)).length } →
      codeAny (model prog w) A (.compLoop (.ListComp elt (⟨target, iter, ifs, 0⟩ :: rest) scope pos) 0 (.ref I) (.ref s₂.heap.objs.size) (compEnvC scope cl H2.objs.size env))
        (compPost (model prog w) A E (some (assign (.Name y py) env)) (fun _ s' => Q .next s') (.ref s₂.heap.objs.size) H2.objs.size) s₃ := by
    rintro s₃ rfl
    refine go s₂.heap.objs.size H2.objs.size oC h₁ _ _ (fun p hp => Heap.lt_size (N p hp).1) hI hLlt (by rw [hC]; exact Nat.lt_succ_self _) hD₀ hC₀ (Nat.le_add_right _ _) old hoC (F.keeps old) (fun p hp => ?_) fun h' tk' ys news' oC' m' hle F' hC' N' offC fin => ?_
    · refine mem_elim hp ?_ fun hp => ?_
      · exact ⟨heC, hCL, hC₀⟩
      refine mem_elim hp ?_ fun hp => ?_
      · exact ⟨hacc, hDL, hD₀⟩
      · exact ⟨old _ _ (N p hp).1, (N p hp).2⟩
    · show wpAny _ A (assign (.Name y py) env (.ref s₂.heap.objs.size)) _ _ _
      refine wpAny_assign_Name (wpAny_storeName_local hy F'.ns (fun h₂ hn₂ hs₂ => ?_) hp)
      have hL₀ : h₀.get? env.locals = none := Heap.get?_none_of_le F'.above
      have F₂ : Fr h₀ env.locals h₂ (fun z => if z = y then some (.ref s₂.heap.objs.size) else m z) := ⟨hn₂, fun b o e => hs₂.extBut b o (fun q => by rw [q, hL₀] at e; cases e) (F'.keep b o e), F'.above⟩
      refine ⟨m', (hC'.ns (N' _ (.head _)).1).sameBut hs₂ hCL, fun h'' hs'' => fin h'' _ (Nat.le_succ _) (F₂.change hs'' hCL hC₀) (fun p hp => ?_)⟩
      have z : h₂.get? p.1 = some p.2 := hs₂.extBut _ _ (N' p (.tail _ hp)).2.1 (N' p (.tail _ hp)).1
      exact ⟨hs''.extBut _ _ (offC p hp) z, (N' p (.tail _ hp)).2⟩
  exact codeAny_compStart_list (loop _ rfl) (self _ _ _ _ old (loop _ rfl))
end
end
theorem off_T11 : True := by
  w_top off
  trivial
section
section
open PyProof.Rows.LCg
variable {prog : Program} {w : World} {A : Around} {E : Value → Shared → Prop} {s : Shared} {h₀ : Heap} {L : Addr} {m : Str → Option Value} {env : Env}
/-- facts kept by a heap that changes but at some new objects -/
theorem fr_off {h h' : Heap} {bs : List Addr} (F : Fr h₀ L h m) (hk : ∀ b o, b ∉ bs → h.get? b = some o → h'.get? b = some o) (hL : L ∉ bs) (h0 : ∀ b ∈ bs, h₀.get? b = none) : Fr h₀ L h' m :=
  ⟨F.ns.at' fun o e => hk L o hL e, fun b o e => hk b o (fun hm => by rw [h0 b hm] at e; cases e) (F.keep b o e), F.above⟩
theorem news_off {h h' : Heap} {bs : List Addr} {news : Led} (N : News h₀ L h news) (hk : ∀ b o, b ∉ bs → h.get? b = some o → h'.get? b = some o) (off : ∀ p ∈ news, p.1 ∉ bs) : News h₀ L h' news :=
  fun p hp => ⟨hk _ _ (off p hp) (N p hp).1, (N p hp).2⟩
theorem not2 {a I : Nat} (h1 : a ≠ I + 1) (h2 : a ≠ I) : (a : Addr) ∉ ([I + 1, I] : List Addr) := by
  intro h
  rcases List.mem_cons.mp h with h | h
  · exact h1 h
  · exact h2 (List.mem_singleton.mp h)
theorem in2 {a I : Nat} (h : (a : Addr) ∈ ([I + 1, I] : List Addr)) : I ≤ a := by
  rcases List.mem_cons.mp h with h | h
  · exact h ▸ Nat.le_succ _
  · exact Nat.le_of_eq (List.mem_singleton.mp h).symm
theorem of2 {a I : Nat} (h : (a : Addr) ∉ ([I + 1, I] : List Addr)) : a ≠ I + 1 ∧ a ≠ I := ⟨fun e => h (e ▸ .head _), fun e => h (e ▸ .tail _ (.head _))⟩
/-- a comprehension over enumerate(list): its loop -/
theorem enum_go {elt iter : Expr} {a b : Str} {pa pb tp : Pos} {kk : Nat} {scope : Scope} {cl : List (Str × Addr)} {pos : Pos} {Fin : Shared → Addr → List Value → Led → Nat → Prop} {l : Addr} {its : Array Value} {k : Nat} {news : Led} (V : Nat → Value → Prop)
    (hh : A.handled = none) (F : Fr h₀ L s.heap m) (N : News h₀ L s.heap news) (hm : (l, listOf its k) ∈ news) (hsz : its.size ≤ sizeLine)
    (hkind : scope.kind = .function) (hxa : scope.names.lookup a = some .local) (hxb : scope.names.lookup b = some .local) (hab : ¬ a = b)
    (step : ∀ (i : Nat) x t e oe I oI C oC D ys m₂ h tk E', its[i]? = some x → NsObj oC m₂ → m₂ a = some (.int (i : Int) t) → m₂ b = some x → Fr h₀ L h m → News h₀ L h ((e, oe) :: (I, oI) :: (C, oC) :: (D, lst ys) :: news) → (D < C ∧ I < e ∧ e < D) → (∀ p ∈ news, p.1 < I) →
      wpAny (model prog w) A (eval elt (compEnvC scope cl C env)) (EltEnd h₀ L m { s with heap := h, toks := tk } ((e, oe) :: (I, oI) :: (C, oC) :: (D, lst ys) :: news) (V i)) E' { s with heap := h, toks := tk })
    (fin : ∀ s₂ D ys tk, (∃ h tk, s₂ = { s with heap := h, toks := tk }) → (∀ p ∈ news, p.1 < D) → ys.length = its.size → (∀ i y, ys[i]? = some y → V i y) → Fin s₂ D ys news tk) :
    wpAny (model prog w) A (call (.type "enumerate") [.ref l]) (fun xv s₁ => wpAny (model prog w) A (pyIter xv) (CompGo prog w A h₀ L m env (.ListComp elt [⟨.Tuple [.Name a pa, .Name b pb] kk tp, iter, [], 0⟩] scope pos) scope cl Fin) E s₁) E s := by
  have hl : s.heap.IsList l its := N.isList hm
  have hlt : ∀ p ∈ news, p.1 < s.heap.objs.size := fun p hp => Heap.lt_size (N p hp).1
  have hll : l < s.heap.objs.size := hlt _ hm
  have hLI : L < s.heap.objs.size := F.ns.lt
  refine call_enumerate_list hl fun h' hE hI hsz' hk => wpAny_pyIter_enum hE ?_
  generalize hIe : s.heap.objs.size = I at *
  have n0 : ∀ x, I ≤ x → h₀.get? x = none := fun x hx => by
    cases e : h₀.get? x with
    | none => rfl
    | some o' => have z := Heap.lt_size (F.keep x o' e); rw [hIe] at z; exact absurd z (Nat.not_lt.mpr hx)
  refine ⟨I + 1, news, rfl, F.keeps hk, N.grown hk, by show I + 1 < h'.objs.size; rw [hsz']; exact Nat.lt_succ_self _, fun h tk Q E' hk' hQ => wpAny_pyIter_enum (hk' _ _ hE) hQ, ?_⟩
  intro D C oC h tk RR hD hID hLD hDC hD₀ hC₀ htk hk' hoC F' N' hRR
  replace htk : s.toks ≤ tk := htk
  replace hE : IsEnum h (I + 1) I 0 .none := hk' _ _ hE
  replace hI : h.IsListIter I l 0 := hI.at fun o e => hk' _ o e
  have hIC : I + 1 < C := Nat.lt_trans hID hDC
  refine kcp_loop
    (fun k' s' => Ex7 fun h' tk' i ys oC' m' old => An11 (s' = { s with heap := h', toks := tk' }) (tk ≤ tk') (i ≤ its.size) (k' = its.size + 1 - i) (ys.length = i) (IsEnum h' (I + 1) I (i : Int) old) (h'.IsListIter I l i) (Fr h₀ L h' m) (NsObj oC' m') (News h₀ L h' ((C, oC') :: (D, lst ys) :: news)) (∀ j y, ys[j]? = some y → V j y)) ?_ (its.size + 1)
    ⟨h, tk, 0, [], oC, _, .none, rfl, Nat.le_refl _, Nat.zero_le _, rfl, rfl, hE, hI, F', hoC, N', by intro j y h; simp at h⟩
  rintro k' s' ⟨h₁, tk₁, i, ys, oC₁, m₁, old, rfl, hle, hi, rfl, hyl, hE₁, hI₁, F₁, hoC₁, N₁, hV⟩
  have offN : ∀ p ∈ (C, oC₁) :: (D, lst ys) :: news, p.1 ∉ [I + 1, I] := fun p hp => by
    refine mem_elim hp ?_ fun hp => ?_
    · exact not2 (Nat.ne_of_gt hIC) (Nat.ne_of_gt (Nat.lt_of_succ_lt hIC))
    refine mem_elim hp ?_ fun hp => ?_
    · exact not2 (Nat.ne_of_gt hID) (Nat.ne_of_gt (Nat.lt_of_succ_lt hID))
    · exact not2 (Nat.ne_of_lt (Nat.lt_succ_of_lt (hlt p hp))) (Nat.ne_of_lt (hlt p hp))
  have hLb : L ∉ [I + 1, I] := not2 (Nat.ne_of_lt (Nat.lt_succ_of_lt hLI)) (Nat.ne_of_lt hLI)
  have n0b : ∀ x ∈ [I + 1, I], h₀.get? x = none := fun x hx => n0 x (in2 hx)
  have hl₁ : h₁.IsList l its := News.isList (N := fun p hp => N₁ p (.tail _ (.tail _ hp))) hm
  by_cases hlt' : i < its.size
  · have hx : its[i]? = some its[i] := by simp [hlt']
    refine wpAny_pyNext_enum_item hE₁ hI₁ hl₁ hx (Nat.succ_ne_self _) fun h₂ hO₂ hI₂ hT₂ hz₂ hk₂ => ?_
    refine wpAny_letOwnedTupleGo_enum hO₂ fun h₃ hE₃ hs₃ => ?_
    have hk₂₃ : ∀ x o, x ∉ [I + 1, I] → h₁.get? x = some o → h₃.get? x = some o := fun x o hx e => by
      have e' := of2 hx
      exact hs₃.extBut x o e'.1 (hk₂ x o e'.1 e'.2 e)
    have hI₃ : h₃.IsListIter I l (i + 1) := hI₂.at fun o e => hs₃.extBut I o (Nat.ne_of_lt (Nat.lt_succ_self _)) e
    have F₃ := fr_off F₁ hk₂₃ hLb n0b
    have N₃ := news_off N₁ hk₂₃ offN
    have hCsz : C < h₁.objs.size := Heap.lt_size (N₁ _ (.head _)).1
    have hT₃ : h₃.IsTuple h₁.objs.size #[.int (i : Int) tk₁, its[i]] := ⟨_, hs₃.extBut _ _ (by have := Heap.lt_size hE₁; exact Nat.ne_of_gt this) hT₂, rfl, _, rfl⟩
    refine wpAny_toks' (kcp_assign (env := compEnvC scope cl C env) hh hT₃ (lookup_relabel_local hxa) (lookup_relabel_local hxb) (by simp [compEnvC, relabel, hkind]) (hoC₁.ns (N₃ _ (.head _)).1) fun h₄ tk₄ hn₄ hs₄ htk₄ => ?_)
    replace htk₄ : tk₁ + 1 ≤ tk₄ := htk₄
    obtain ⟨oC₄, heC₄, hoC₄⟩ := ns_obj hn₄
    have hLC : L ≠ C := Nat.ne_of_lt (Nat.lt_trans hLD hDC)
    have hs₄' : ∀ x o, x ∉ [C] → h₃.get? x = some o → h₄.get? x = some o := fun x o hx e => hs₄ x o (fun q => hx (List.mem_singleton.mpr q)) e
    have F₄ := fr_off F₃ hs₄' (by simpa using hLC) (fun x hx => by rw [List.mem_singleton.mp hx]; exact hC₀)
    obtain ⟨oI, heI, rI⟩ := hI₃
    have heE₄ := hs₄ _ _ (Nat.ne_of_lt hIC) hE₃
    have heI₄ := hs₄ _ _ (Nat.ne_of_lt (Nat.lt_of_succ_lt hIC)) heI
    have N₄ : News h₀ L h₄ ((I + 1, _) :: (I, oI) :: (C, oC₄) :: (D, lst ys) :: news) := fun p hp => by
      refine mem_elim hp ?_ fun hp => ?_
      · exact ⟨heE₄, fun q => hLb (by rw [← q]; simp), n0 _ (Nat.le_succ _)⟩
      refine mem_elim hp ?_ fun hp => ?_
      · exact ⟨heI₄, fun q => hLb (by rw [← q]; simp), n0 _ (Nat.le_refl _)⟩
      refine mem_elim hp ?_ fun hp => ?_
      · exact ⟨heC₄, Ne.symm hLC, hC₀⟩
      · have z := N₃ p (.tail _ hp)
        refine ⟨hs₄ _ _ ?_ z.1, z.2⟩
        refine mem_elim hp ?_ fun hp => ?_
        · exact Nat.ne_of_lt hDC
        · exact Nat.ne_of_lt (Nat.lt_trans (hlt p hp) (Nat.lt_of_succ_lt hIC))
    refine wpAny_toks' (wpAny_mono (step i _ tk₁ (I + 1) _ I oI C oC₄ D ys _ h₄ tk₄ _ hx hoC₄ (by simp [hab]) (by simp) F₄ N₄ ⟨hDC, Nat.lt_succ_self _, hID⟩ hlt) (fun y s₅ h₅ htk₅ => ?_) fun _ _ e => e)
    obtain ⟨h₅, tk₅, rfl, F₅, N₅, hy⟩ := h₅
    replace htk₅ : tk₄ ≤ tk₅ := htk₅
    have zD := (N₅ (D, lst ys) (.tail _ (.tail _ (.tail _ (.head _))))).1
    refine append_at (hsz := by show ys.toArray.size ≤ sizeLine; rw [List.size_toArray, hyl]; exact Nat.le_trans hi hsz) zD fun h₆ hs₆ hD₆ => ?_
    have other : ∀ x o, x ≠ D → h₅.get? x = some o → h₆.get? x = some o := fun x o hb e => (hs₆.2 x hb).trans e
    refine ⟨its.size + 1 - (i + 1), subL (by assumption), h₆, tk₅, i + 1, ys ++ [y], oC₄, _, its[i], rfl, by omega, hlt', rfl, by rw [List.length_append, List.length_singleton, hyl], ?_, ⟨oI, other _ _ (Nat.ne_of_lt (Nat.lt_of_succ_lt hID)) (N₅ _ (.tail _ (.head _))).1, rI⟩, F₅.change hs₆ (Nat.ne_of_gt hLD) hD₀, hoC₄, fun p hp => ?_, fun j y' hj => ?_⟩
    · have z := other _ _ (Nat.ne_of_lt hID) (N₅ _ (.head _)).1
      exact z
    · refine mem_elim hp ?_ fun hp => ?_
      · have z := N₅ _ (.tail _ (.tail _ (.head _))); exact ⟨other _ _ (Nat.ne_of_gt hDC) z.1, z.2⟩
      refine mem_elim hp ?_ fun hp => ?_
      · have z := N₅ (D, lst ys) (.tail _ (.tail _ (.tail _ (.head _)))); exact ⟨hD₆.trans (congrArg some (lst_snoc ys y)), z.2⟩
      · have z := N₅ p (.tail _ (.tail _ (.tail _ (.tail _ hp)))); exact ⟨other _ _ (Nat.ne_of_lt (hD p hp)) z.1, z.2⟩
    · by_cases hji : j < ys.length
      · rw [List.getElem?_append_left hji] at hj; exact hV j y' hj
      · rw [List.getElem?_append_right (Nat.le_of_not_lt hji)] at hj
        have hj0 : j = i := by
          have : j - ys.length < 1 := (List.getElem?_eq_some_iff.mp hj).1
          exact jEq (by assumption) hji this
        subst hj0
        rw [hyl, Nat.sub_self] at hj
        cases hj
        exact hy
  · obtain rfl : i = its.size := Nat.le_antisymm hi (Nat.not_lt.mp hlt')
    refine wpAny_pyNext_enum_end hh hE₁ hI₁ hl₁ (by simp) fun h₂ hk₂ => ?_
    have hk₂' : ∀ x o, x ∉ [I + 1, I] → h₁.get? x = some o → h₂.get? x = some o := fun x o hx e => hk₂ x o (of2 hx).2 e
    refine hRR h₂ tk₁ ys news oC₁ _ hle (fr_off F₁ hk₂' hLb n0b) hoC₁ (news_off N₁ hk₂' offN) (fun p hp => ?_) (fin _ D ys tk₁ ⟨_, _, rfl⟩ hD hyl hV)
    refine mem_elim hp ?_ fun hp => ?_
    · exact Nat.ne_of_lt hDC
    · exact Nat.ne_of_lt (Nat.lt_trans (hD p hp) hDC)
end
end
theorem off_T12 : True := by
  w_top off
  trivial
section
section
variable {prog : Program} {w : World} {A : Around} {s : Shared} {R : Result → Shared → Prop}
noncomputable def NoE : Value → Shared → Prop := fun _ _ => False
theorem compTurn_two0 (elt t0 i0 t1 i1 : Expr) (ifs : List Expr) (scope : Scope) (pos : Pos) (it acc : Value) (env : Env) :
    compTurn (.ListComp elt [⟨t0, i0, [], 0⟩, ⟨t1, i1, ifs, 0⟩] scope pos) 0 it acc env = (standAt i0.pos >>= fun _ => pyNext it >>= fun r => match r with
      | none => pure (.done .next)
      | some v => letOwnedTupleGo t0 it v >>= fun _ => assign t0 env v >>= fun _ => eval i1 env >>= fun x => standAt i1.pos >>= fun _ => foldedSetIterable i1 env x >>= fun x => holding [x] (pyIter x) >>= fun it' =>
          runOwn (.compStart (.ListComp elt [⟨t0, i0, [], 0⟩, ⟨t1, i1, ifs, 0⟩] scope pos) 1 it' acc env) env >>= fun _ => again (.compLoop (.ListComp elt [⟨t0, i0, [], 0⟩, ⟨t1, i1, ifs, 0⟩] scope pos) 0 it acc env)) := by rfl
theorem compTurn_two1 (elt t0 i0 t1 i1 c : Expr) (scope : Scope) (pos : Pos) (it acc : Value) (env : Env) :
    compTurn (.ListComp elt [⟨t0, i0, [], 0⟩, ⟨t1, i1, [c], 0⟩] scope pos) 1 it acc env = (standAt i1.pos >>= fun _ => pyNext it >>= fun r => match r with
      | none => pure (.done .next)
      | some v => letOwnedTupleGo t1 it v >>= fun _ => assign t1 env v >>= fun _ => (forIn [c] true fun c r => if r = true then do let ok ← isTrue c env (eval c env); pure (ForInStep.yield ok) else pure (ForInStep.yield r)) >>= fun ok =>
          if ok = true then ((eval elt env >>= fun x => call (.builtin "list.append") [acc, x] >>= fun _ => pure ()) >>= fun _ => again (.compLoop (.ListComp elt [⟨t0, i0, [], 0⟩, ⟨t1, i1, [c], 0⟩] scope pos) 1 it acc env))
          else again (.compLoop (.ListComp elt [⟨t0, i0, [], 0⟩, ⟨t1, i1, [c], 0⟩] scope pos) 1 it acc env)) := by rfl
theorem loop_two0 {elt t0 i0 t1 i1 : Expr} {ifs : List Expr} {scope : Scope} {pos : Pos} {it acc : Value} {env : Env} (I : Nat → Shared → Prop)
    (turn : ∀ n s, I n s → wpAny (model prog w) A (pyNext it) (fun r s₁ => match r with
      | none => R (.ok .next) s₁
      | some v => wpAny (model prog w) A (assign t0 env v) (fun _ s₂ => wpAny (model prog w) A (eval i1 env) (fun x s₃ => wpAny (model prog w) A (pyIter x) (fun it' s₄ =>
          codeAny (model prog w) A (.compStart (.ListComp elt [⟨t0, i0, [], 0⟩, ⟨t1, i1, ifs, 0⟩] scope pos) 1 it' acc env) (fun r s₅ => match r with | .ok _ => ∃ m, m < n ∧ I m s₅ | .error _ => False) s₄) NoE s₃) NoE s₂) NoE s₁) NoE s)
    (n : Nat) (h : I n s) (ht : ∀ v, letOwnedTupleGo t0 it v = pure () := by intro _; rfl) (hs : ∀ x, foldedSetIterable i1 env x = pure x := by intro _; rfl) :
    codeAny (model prog w) A (.compLoop (.ListComp elt [⟨t0, i0, [], 0⟩, ⟨t1, i1, ifs, 0⟩] scope pos) 0 it acc env) R s := by
  refine codeAny_loop rfl I (fun n s hI => ?_) n h
  show wpAny _ A ((compTurn (.ListComp elt [⟨t0, i0, [], 0⟩, ⟨t1, i1, ifs, 0⟩] scope pos) 0 it acc env).onRaise (fun x => do noteFrame x env; theTreesLotGoes x)) _ _ s
  refine wpAny_noted ?_
  rw [compTurn_two0]
  refine wpAny_bind (wpAny_standAt (wpAny_bind (wpAny_mono (turn n s hI) (fun r s₁ h₁ => ?_) fun _ _ h' => h'.elim)))
  cases r with
  | none => exact wpAny_pure h₁
  | some v =>
    refine wpAny_bind (wpAny_of_eq (ht v) ?_)
    refine wpAny_bind (wpAny_mono h₁ (fun _ s₂ h₂ => wpAny_bind (wpAny_mono h₂ (fun x s₃ h₃ => ?_) fun _ _ h' => h'.elim)) fun _ _ h' => h'.elim)
    refine wpAny_bind (wpAny_standAt (wpAny_bind (wpAny_of_eq (hs x) (wpAny_bind (wpAny_holding (wpAny_mono h₃ (fun it' s₄ h₄ => ?_) fun _ _ h' => h'.elim))))))
    refine wpAny_bind (wpAny_runOwn (codeAny_mono h₄ fun r s₅ h₅ => ?_))
    cases r with
    | ok f => exact wpAny_pure ⟨rfl, h₅⟩
    | error e => exact h₅.elim
theorem loop_two1 {elt t0 i0 t1 i1 c : Expr} {scope : Scope} {pos : Pos} {it acc : Value} {env : Env} (I : Nat → Shared → Prop)
    (turn : ∀ n s, I n s → wpAny (model prog w) A (pyNext it) (fun r s₁ => match r with
      | none => R (.ok .next) s₁
      | some v => wpAny (model prog w) A (assign t1 env v) (fun _ s₂ => wpAny (model prog w) A (isTrue c env (eval c env)) (fun ok s₃ =>
          if ok = true then wpAny (model prog w) A (eval elt env) (fun x s₄ => wpAny (model prog w) A (call (.builtin "list.append") [acc, x]) (fun _ s₅ => ∃ m, m < n ∧ I m s₅) NoE s₄) NoE s₃
          else ∃ m, m < n ∧ I m s₃) NoE s₂) NoE s₁) NoE s)
    (n : Nat) (h : I n s) (ht : ∀ v, letOwnedTupleGo t1 it v = pure () := by intro _; rfl) :
    codeAny (model prog w) A (.compLoop (.ListComp elt [⟨t0, i0, [], 0⟩, ⟨t1, i1, [c], 0⟩] scope pos) 1 it acc env) R s := by
  refine codeAny_loop rfl I (fun n s hI => ?_) n h
  show wpAny _ A ((compTurn (.ListComp elt [⟨t0, i0, [], 0⟩, ⟨t1, i1, [c], 0⟩] scope pos) 1 it acc env).onRaise (fun x => do noteFrame x env; theTreesLotGoes x)) _ _ s
  refine wpAny_noted ?_
  rw [compTurn_two1]
  refine wpAny_bind (wpAny_standAt (wpAny_bind (wpAny_mono (turn n s hI) (fun r s₁ h₁ => ?_) fun _ _ h' => h'.elim)))
  cases r with
  | none => exact wpAny_pure h₁
  | some v =>
    refine wpAny_bind (wpAny_of_eq (ht v) ?_)
    refine wpAny_bind (wpAny_mono h₁ (fun _ s₂ h₂ => wpAny_bind (wpAny_tests_one (wpAny_mono h₂ (fun ok s₃ h₃ => ?_) fun _ _ h' => h'.elim))) fun _ _ h' => h'.elim)
    cases ok with
    | false => exact wpAny_pure ⟨rfl, h₃⟩
    | true =>
      exact wpAny_bind (wpAny_bind (wpAny_mono h₃ (fun x s₄ h₄ => wpAny_bind (wpAny_mono h₄ (fun _ s₅ h₅ => wpAny_pure (wpAny_pure ⟨rfl, h₅⟩)) fun _ _ h' => h'.elim)) fun _ _ h' => h'.elim))
theorem start_two1 {elt t0 i0 t1 i1 : Expr} {ifs : List Expr} {scope : Scope} {pos : Pos} {it acc : Value} {env : Env}
    (h0 : codeAny (model prog w) A (.compLoop (.ListComp elt [⟨t0, i0, [], 0⟩, ⟨t1, i1, ifs, 0⟩] scope pos) 1 it acc env) R s)
    (h : wpAny (model prog w) A (pyIter it) (fun it' s' => codeAny (model prog w) A (.compLoop (.ListComp elt [⟨t0, i0, [], 0⟩, ⟨t1, i1, ifs, 0⟩] scope pos) 1 it' acc env) R s') NoE s) :
    codeAny (model prog w) A (.compStart (.ListComp elt [⟨t0, i0, [], 0⟩, ⟨t1, i1, ifs, 0⟩] scope pos) 1 it acc env) R s := by
  refine codeAny_of_tree ?_
  show wpAny _ _ ((compStart (.ListComp elt [⟨t0, i0, [], 0⟩, ⟨t1, i1, ifs, 0⟩] scope pos) 1 it acc env).onRaise (fun x => do noteFrame x env; standAt theWindowsPlace)) _ _ s
  refine wpAny_notedAt ?_
  unfold compStart
  show wpAny _ _ (ask >>= _) _ _ s
  refine wpAny_bind (wpAny_askSetting (wpAny_ite ?_))
  split
  · first
      | exact wpAny_bind (wpAny_pure (wpAny_pure (And.intro rfl h0)))
      | exact wpAny_pure (And.intro rfl h0)
  · first
      | exact wpAny_bind (wpAny_rule (wpAny_bind (wpAny_standAt (wpAny_bind (wpAny_mono h (fun it' s' h' => wpAny_pure (And.intro rfl h')) fun _ _ x => x.elim)))))
      | (refine wpAny_bind (wpAny_rule ?_); show wpAny _ _ (standAt i1.pos >>= _) _ _ s; exact wpAny_bind (wpAny_standAt (wpAny_bind (wpAny_mono h (fun it' s' h' => wpAny_pure (And.intro rfl h')) fun _ _ x => x.elim))))
end
end
theorem off_T13 : True := by
  w_top off
  trivial
section
noncomputable abbrev planeO (u v : Nat) (t0 t1 t2 t3 : Tok) (n : Nat) : Obj := listOf #[.int 0 t0, .int (u : Int) t1, .int (v : Int) t2, .int ((u ^^^ v : Nat) : Int) t3] n
/-- the planes that a list holds -/
noncomputable def PlanesAre (D : Nat) (ys : List Value) (pl : Led) (prs : List (Nat × Nat)) : Prop :=
  ys.length = prs.length ∧ ∀ (i u v : Nat), prs[i]? = some (u, v) → ∃ (P : Nat) (t0 t1 t2 t3 : Tok) (n : Nat), ys[i]? = some (Value.ref P) ∧ D < P ∧ (P, planeO u v t0 t1 t2 t3 n) ∈ pl
theorem PlanesAre.nil (D : Nat) : PlanesAre D [] [] [] := ⟨rfl, fun i u v h => by simp at h⟩
theorem PlanesAre.snoc {D : Nat} {ys : List Value} {pl : Led} {prs : List (Nat × Nat)} (h : PlanesAre D ys pl prs) {P : Nat} {u v : Nat} {t0 t1 t2 t3 : Tok} {n : Nat} (hP : D < P) :
    PlanesAre D (ys ++ [Value.ref P]) ((P, planeO u v t0 t1 t2 t3 n) :: pl) (prs ++ [(u, v)]) := by
  refine ⟨by simp [h.1], fun i u' v' e => ?_⟩
  by_cases hi : i < prs.length
  · rw [List.getElem?_append_left hi] at e
    obtain ⟨P', a, b, c, d, n', e', l, hm⟩ := h.2 i u' v' e
    exact ⟨P', a, b, c, d, n', by rw [List.getElem?_append_left (by rw [h.1]; exact hi)]; exact e', l, .tail _ hm⟩
  · rw [List.getElem?_append_right (Nat.le_of_not_lt hi)] at e
    have hi0 : i = prs.length := by
      have : i - prs.length < 1 := (List.getElem?_eq_some_iff.mp e).1
      exact jEq rfl hi this
    subst hi0
    rw [Nat.sub_self] at e
    cases e
    exact ⟨P, t0, t1, t2, t3, n, by rw [← h.1, List.getElem?_append_right (Nat.le_refl _), Nat.sub_self]; rfl, hP, .head _⟩
noncomputable def IterEnd (h₀ : Heap) (L : Addr) (m : Str → Option Value) (s₁ : Shared) (led : Led) (a b : Int) (xv : Value) (s' : Shared) : Prop :=
  Ex6 fun r t u v h' tk => An5 (xv = .ref r) (s' = { s₁ with heap := h', toks := tk }) (Fr h₀ L h' m) (News h₀ L h' led) (IsRange h' r a b 1 t u v)
noncomputable def TestEnd (h₀ : Heap) (L : Addr) (m : Str → Option Value) (s₁ : Shared) (led : Led) (b ok : Bool) (s' : Shared) : Prop :=
  Ex2 fun h' tk => An4 (s' = { s₁ with heap := h', toks := tk }) (Fr h₀ L h' m) (News h₀ L h' led) (ok = b)
noncomputable def PlaneEnd (h₀ : Heap) (L : Addr) (m : Str → Option Value) (s₁ : Shared) (led : Led) (u v : Nat) (y : Value) (s' : Shared) : Prop :=
  Ex8 fun (h' : Heap) (tk : Nat) (P : Nat) (t0 t1 t2 t3 : Tok) (n : Nat) => An5 (s' = { s₁ with heap := h', toks := tk }) (y = Value.ref P) (Fr h₀ L h' m) (News h₀ L h' ((P, planeO u v t0 t1 t2 t3 n) :: led)) (∀ p ∈ led, p.1 < P)
/-- what the two clauses and the element do -/
structure PlaneSteps (prog : Program) (w : World) (A : Around) (h₀ : Heap) (L : Addr) (m : Str → Option Value) (env : Env) (i1 c elt : Expr) (xu xv : Str) (scope : Scope) (cl : List (Str × Addr)) (s : Shared) : Prop where
  iter : ∀ (u : Nat) t I oI C oC D ys m₂ h tk rest, 1 ≤ u → u ≤ 15 → LCg.NsObj oC m₂ → m₂ xu = some (.int (u : Int) t) → Fr h₀ L h m → News h₀ L h ((I, oI) :: (C, oC) :: (D, LCg.lst ys) :: rest) →
    wpAny (model prog w) A (eval i1 (compEnvC scope cl C env)) (IterEnd h₀ L m { s with heap := h, toks := tk } ((I, oI) :: (C, oC) :: (D, LCg.lst ys) :: rest) ((u : Int) + 1) 16) NoE { s with heap := h, toks := tk }
  test : ∀ (u v : Nat) t t' J oJ I oI C oC D ys m₂ h tk rest, u < 16 → v < 16 → LCg.NsObj oC m₂ → m₂ xu = some (.int (u : Int) t) → m₂ xv = some (.int (v : Int) t') → Fr h₀ L h m → News h₀ L h ((J, oJ) :: (I, oI) :: (C, oC) :: (D, LCg.lst ys) :: rest) →
    wpAny (model prog w) A (isTrue c (compEnvC scope cl C env) (eval c (compEnvC scope cl C env))) (TestEnd h₀ L m { s with heap := h, toks := tk } ((J, oJ) :: (I, oI) :: (C, oC) :: (D, LCg.lst ys) :: rest) (decide (u ^^^ v > v))) NoE { s with heap := h, toks := tk }
  elt : ∀ (u v : Nat) t t' J oJ I oI C oC D ys m₂ h tk rest, u < 16 → v < 16 → LCg.NsObj oC m₂ → m₂ xu = some (.int (u : Int) t) → m₂ xv = some (.int (v : Int) t') → Fr h₀ L h m → News h₀ L h ((J, oJ) :: (I, oI) :: (C, oC) :: (D, LCg.lst ys) :: rest) →
    wpAny (model prog w) A (eval elt (compEnvC scope cl C env)) (PlaneEnd h₀ L m { s with heap := h, toks := tk } ((J, oJ) :: (I, oI) :: (C, oC) :: (D, LCg.lst ys) :: rest) u v) NoE { s with heap := h, toks := tk }
noncomputable def uvsTo (i : Nat) : List (Nat × Nat) := (List.range i).flatMap fun i => ((List.range (14 - i)).map fun j => (i + 1, i + 2 + j)).filter fun p => decide (p.1 ^^^ p.2 > p.2)
noncomputable def uvsIn (i j : Nat) : List (Nat × Nat) := ((List.range j).map fun j => (i + 1, i + 2 + j)).filter fun p => decide (p.1 ^^^ p.2 > p.2)
theorem uvsTo_succ (i : Nat) : uvsTo (i + 1) = uvsTo i ++ uvsIn i (14 - i) := by
  unfold uvsTo uvsIn
  rw [List.range_succ, List.flatMap_append]
  simp
theorem uvsIn_succ (i j : Nat) : uvsIn i (j + 1) = uvsIn i j ++ (if (i + 1) ^^^ (i + 2 + j) > i + 2 + j then [(i + 1, i + 2 + j)] else []) := by
  unfold uvsIn
  rw [List.range_succ, List.map_append, List.filter_append]
  simp [List.filter_cons]
section
open PyProof.Rows.LCg
variable {prog : Program} {w : World} {A : Around} {s : Shared} {h₀ : Heap} {L : Addr} {m : Str → Option Value} {env : Env}
/-- one run of the second clause -/
theorem planes_inner {elt i0 i1 c : Expr} {xu xv : Str} {pu pv : Pos} {scope : Scope} {cl : List (Str × Addr)} {pos : Pos} {news : Led} {R : Result → Shared → Prop} (st : PlaneSteps prog w A h₀ L m env i1 c elt xu xv scope cl s)
    (hh : A.handled = none) (hkind : scope.kind = .function) (hxv : scope.names.lookup xv = some .local) (huv : ¬ xu = xv)
    {i : Nat} (hi : i < 15) {J I C D : Nat} {oI oC : Obj} {ys : List Value} {pl : Led} {prs : List (Nat × Nat)} {m₂ : Str → Option Value} {h : Heap} {tk : Nat} {t : Tok}
    (hLD : @LT.lt Nat _ L D) (hID : I < D) (hDC : D < C) (hCJ : C < J) (hJ₀ : ∀ x, J ≤ x → h₀.get? x = none) (hC₀ : h₀.get? C = none) (hD₀ : h₀.get? D = none) (hnews : ∀ p ∈ news, @LT.lt Nat _ p.1 D) (hpl : ∀ p ∈ pl, @LT.lt Nat _ C p.1 ∧ @LT.lt Nat _ p.1 J)
    (hPl : PlanesAre D ys pl prs) (hsz : prs.length + 14 ≤ sizeLine) (hoC : NsObj oC m₂) (hu : m₂ xu = some (.int ((i + 1 : Nat) : Int) t)) (F : Fr h₀ L h m) (N : News h₀ L h ((I, oI) :: (C, oC) :: (D, lst ys) :: (pl ++ news)))
    (hit : IsRangeIter h J (((i + 1 : Nat) : Int) + 1 + ((0 : Nat) : Int) * 1) (((14 - i : Nat) : Int) - ((0 : Nat) : Int)) 1)
    (hR : ∀ h' tk' ys' pl' oC' m', tk ≤ tk' → Fr h₀ L h' m → NsObj oC' m' → News h₀ L h' ((I, oI) :: (C, oC') :: (D, lst ys') :: (pl' ++ news)) → (∀ p ∈ pl', @LT.lt Nat _ C p.1) → PlanesAre D ys' pl' (prs ++ uvsIn i (14 - i)) → R (.ok .next) { s with heap := h', toks := tk' }) :
    codeAny (model prog w) A (.compLoop (.ListComp elt [⟨.Name xu pu, i0, [], 0⟩, ⟨.Name xv pv, i1, [c], 0⟩] scope pos) 1 (.ref J) (.ref D) (compEnvC scope cl C env)) R { s with heap := h, toks := tk } := by
  have hLJ : @LT.lt Nat _ L J := Nat.lt_trans hLD (Nat.lt_trans hDC hCJ)
  refine loop_two1
    (fun k s' => Ex7 fun h' tk' j ys' pl' oC' m' => An11 (s' = { s with heap := h', toks := tk' }) (tk ≤ tk') (j ≤ 14 - i) (k = 14 - i + 1 - j) (IsRangeIter h' J (((i + 1 : Nat) : Int) + 1 + (j : Nat) * 1) (((14 - i : Nat) : Int) - (j : Nat)) 1) (Fr h₀ L h' m) (NsObj oC' m') (m' xu = some (.int ((i + 1 : Nat) : Int) t)) (News h₀ L h' ((I, oI) :: (C, oC') :: (D, lst ys') :: (pl' ++ news))) ((∀ p ∈ pl', @LT.lt Nat _ C p.1 ∧ @Ne Nat p.1 J)) (PlanesAre D ys' pl' (prs ++ uvsIn i j))) ?_ (14 - i + 1)
    ⟨h, tk, 0, ys, pl, oC, m₂, rfl, Nat.le_refl _, Nat.zero_le _, rfl, hit, F, hoC, hu, N, fun p hp => ⟨(hpl p hp).1, Nat.ne_of_lt (hpl p hp).2⟩, by rw [show uvsIn i 0 = [] from rfl, List.append_nil]; exact hPl⟩
  rintro k s' ⟨h₁, tk₁, j, ys₁, pl₁, oC₁, m₁, rfl, hle, hj, rfl, hit₁, F₁, hoC₁, hu₁, N₁, hpl₁, hPl₁⟩
  have W := range_walks (prog := prog) (w := w) (A := A) (I := J) hh (((i + 1 : Nat) : Int) + 1) (14 - i)
  have offJ : ∀ p ∈ (I, oI) :: (C, oC₁) :: (D, lst ys₁) :: (pl₁ ++ news), p.1 ≠ J := fun p hp => by
    refine mem_elim hp ?_ fun hp => ?_
    · exact Nat.ne_of_lt (Nat.lt_trans hID (Nat.lt_trans hDC hCJ))
    refine mem_elim hp ?_ fun hp => ?_
    · exact Nat.ne_of_lt hCJ
    refine mem_elim hp ?_ fun hp => ?_
    · exact Nat.ne_of_lt (Nat.lt_trans hDC hCJ)
    rcases List.mem_append.mp hp with hp | hp
    · exact (hpl₁ p hp).2
    · exact Nat.ne_of_lt (Nat.lt_trans (hnews p hp) (Nat.lt_trans hDC hCJ))
  by_cases hlt : j < 14 - i
  · refine wpAny_toks' (W.item j _ _ _ hlt hit₁ fun v h₂ tk₂ hv hit₂ hk₂ hle₂ => ?_)
    replace hle₂ : tk₁ ≤ tk₂ := hle₂
    have F₂ := fr_but F₁ hk₂ (Nat.ne_of_lt hLJ) (hJ₀ _ (Nat.le_refl _))
    have N₂ := news_but N₁ hk₂ offJ
    obtain ⟨tv, rfl⟩ := hv
    refine wpAny_assign_Name (wpAny_storeName_local (lookup_relabel_local hxv) (hoC₁.ns (N₂ (C, oC₁) (.tail _ (.head _))).1) (fun h₃ hn₃ hs₃ => ?_) (by simp [compEnvC, relabel, hkind]))
    obtain ⟨oC₃, heC₃, hoC₃⟩ := ns_obj hn₃
    have hLC : L ≠ C := Nat.ne_of_lt (Nat.lt_trans hLD hDC)
    have F₃ : Fr h₀ L h₃ m := F₂.change hs₃ (Ne.symm hLC) hC₀
    have oth₃ : ∀ x o, x ≠ C → h₂.get? x = some o → h₃.get? x = some o := fun x o hx e => hs₃.extBut x o hx e
    have hit₃ : IsRangeIter h₃ J (((i + 1 : Nat) : Int) + 1 + ((j + 1 : Nat) : Nat) * 1) (((14 - i : Nat) : Int) - ((j + 1 : Nat) : Nat)) 1 := oth₃ _ _ (Nat.ne_of_gt hCJ) hit₂
    have N₃ : News h₀ L h₃ ((J, _) :: (I, oI) :: (C, oC₃) :: (D, lst ys₁) :: (pl₁ ++ news)) := fun p hp => by
      refine mem_elim hp ?_ fun hp => ?_
      · exact ⟨hit₃, Nat.ne_of_gt hLJ, hJ₀ _ (Nat.le_refl _)⟩
      refine mem_elim hp ?_ fun hp => ?_
      · have z := N₂ _ (.head _); exact ⟨oth₃ _ _ (Nat.ne_of_lt (Nat.lt_trans hID hDC)) z.1, z.2⟩
      refine mem_elim hp ?_ fun hp => ?_
      · exact ⟨heC₃, Ne.symm hLC, hC₀⟩
      · have z := N₂ p (.tail _ (.tail _ hp))
        refine ⟨oth₃ _ _ ?_ z.1, z.2⟩
        refine mem_elim hp ?_ fun hp => ?_
        · exact Nat.ne_of_lt hDC
        rcases List.mem_append.mp hp with hp | hp
        · exact Nat.ne_of_gt (hpl₁ p hp).1
        · exact Nat.ne_of_lt (Nat.lt_trans (hnews p hp) hDC)
    have ev : (((i + 1 : Nat) : Int) + 1 + (j : Int)) = ((i + 2 + j : Nat) : Int) := by omega
    have hv₃ : (fun x => if x = xv then some (Value.int (((i + 1 : Nat) : Int) + 1 + (j : Int)) tv) else m₁ x) xv = some (.int ((i + 2 + j : Nat) : Int) tv) := by simp only [if_true]; rw [ev]
    have hu₃ : (fun x => if x = xv then some (Value.int (((i + 1 : Nat) : Int) + 1 + (j : Int)) tv) else m₁ x) xu = some (.int ((i + 1 : Nat) : Int) t) := by simp only [if_neg huv]; exact hu₁
    refine wpAny_toks' (wpAny_mono (st.test (i + 1) (i + 2 + j) t tv J _ I oI C oC₃ D ys₁ _ h₃ _ _ (by omega) (by omega) hoC₃ hu₃ hv₃ F₃ N₃) (fun ok s₄ h₄ htk₄ => ?_) fun _ _ e => e)
    obtain ⟨h₄, tk₄, rfl, F₄, N₄, rfl⟩ := h₄
    replace htk₄ : tk₂ + 1 ≤ tk₄ := htk₄
    by_cases hc : (i + 1) ^^^ (i + 2 + j) > i + 2 + j
    · rw [if_pos (decide_eq_true hc)]
      refine wpAny_toks' (wpAny_mono (st.elt (i + 1) (i + 2 + j) t tv J _ I oI C oC₃ D ys₁ _ h₄ tk₄ _ (by omega) (by omega) hoC₃ hu₃ hv₃ F₄ N₄) (fun y s₅ h₅ htk₅ => ?_) fun _ _ e => e)
      obtain ⟨h₅, tk₅, P, t0, t1, t2, t3, n, rfl, rfl, F₅, N₅, hP⟩ := h₅
      replace htk₅ : tk₄ ≤ tk₅ := htk₅
      have zD := (N₅ (D, lst ys₁) (.tail _ (.tail _ (.tail _ (.tail _ (.head _)))))).1
      have hlen : ys₁.length ≤ sizeLine := by
        have h1 := hPl₁.1
        have h2 : (prs ++ uvsIn i j).length ≤ prs.length + j := by
          rw [List.length_append]
          have : (uvsIn i j).length ≤ j := by
            unfold uvsIn
            refine Nat.le_trans (List.length_filter_le _ _) ?_
            simp
          omega
        omega
      refine append_at (hsz := by show ys₁.toArray.size ≤ sizeLine; rw [List.size_toArray]; exact hlen) zD fun h₆ hs₆ hD₆ => ?_
      have oth₆ : ∀ x o, x ≠ D → h₅.get? x = some o → h₆.get? x = some o := fun x o hb e => (hs₆.2 x hb).trans e
      have hDP : D < P := hP (D, lst ys₁) (.tail _ (.tail _ (.tail _ (.head _))))
      have hCP : C < P := hP (C, oC₃) (.tail _ (.tail _ (.head _)))
      have hJP : J < P := hP (J, _) (.head _)
      refine ⟨14 - i + 1 - (j + 1), subL (by assumption), h₆, tk₅, j + 1, ys₁ ++ [Value.ref P], (P, planeO (i + 1) (i + 2 + j) t0 t1 t2 t3 n) :: pl₁, oC₃, _, rfl, by omega, hlt, rfl, ?_, F₅.change hs₆ (Nat.ne_of_gt hLD) hD₀, hoC₃, hu₃, fun p hp => ?_, fun p hp => ?_, ?_⟩
      · exact oth₆ _ _ (Nat.ne_of_gt (Nat.lt_trans hDC hCJ)) (N₅ _ (.tail _ (.head _))).1
      · refine mem_elim hp ?_ fun hp => ?_
        · have z := N₅ (I, oI) (.tail _ (.tail _ (.head _))); exact ⟨oth₆ _ _ (Nat.ne_of_lt hID) z.1, z.2⟩
        refine mem_elim hp ?_ fun hp => ?_
        · have z := N₅ (C, oC₃) (.tail _ (.tail _ (.tail _ (.head _)))); exact ⟨oth₆ _ _ (Nat.ne_of_gt hDC) z.1, z.2⟩
        refine mem_elim hp ?_ fun hp => ?_
        · have z := N₅ (D, lst ys₁) (.tail _ (.tail _ (.tail _ (.tail _ (.head _))))); exact ⟨hD₆.trans (congrArg some (lst_snoc ys₁ (Value.ref P))), z.2⟩
        refine mem_elim hp ?_ fun hp => ?_
        · have z := N₅ _ (.head _); exact ⟨oth₆ _ _ (Nat.ne_of_gt hDP) z.1, z.2⟩
        · have z := N₅ p (.tail _ (.tail _ (.tail _ (.tail _ (.tail _ hp)))))
          refine ⟨oth₆ _ _ ?_ z.1, z.2⟩
          rcases List.mem_append.mp hp with hp | hp
          · exact Nat.ne_of_gt (Nat.lt_trans hDC (hpl₁ p hp).1)
          · exact Nat.ne_of_lt (hnews p hp)
      · refine mem_elim hp ?_ fun hp => ?_
        · exact ⟨hCP, Nat.ne_of_gt hJP⟩
        · exact hpl₁ p hp
      · rw [uvsIn_succ, if_pos hc, ← List.append_assoc]
        exact hPl₁.snoc hDP
    · rw [if_neg (by simpa using hc)]
      refine ⟨14 - i + 1 - (j + 1), subL (by assumption), h₄, tk₄, j + 1, ys₁, pl₁, oC₃, _, rfl, by omega, hlt, rfl, (N₄ _ (.head _)).1, F₄, hoC₃, hu₃, fun p hp => N₄ p (.tail _ hp), hpl₁, ?_⟩
      rw [uvsIn_succ, if_neg hc, List.append_nil]
      exact hPl₁
  · obtain rfl : j = 14 - i := Nat.le_antisymm hj (Nat.not_lt.mp hlt)
    refine wpAny_toks' (W.done _ _ _ hit₁ fun h₂ tk₂ hk₂ hle₂ => ?_)
    replace hle₂ : tk₁ ≤ tk₂ := hle₂
    exact hR h₂ tk₂ ys₁ pl₁ oC₁ m₁ (Nat.le_trans hle hle₂) (fr_but F₁ hk₂ (Nat.ne_of_lt hLJ) (hJ₀ _ (Nat.le_refl _))) hoC₁ (news_but N₁ hk₂ offJ) (fun p hp => (hpl₁ p hp).1) hPl₁
end
end
theorem off_T14 : True := by
  w_top off
  trivial
section
theorem range_facts : ∀ i < 15, Builtin.Range.small (((i + 1 : Nat) : Int) + 1) 16 1 = true ∧ Builtin.Range.rangeSize (((i + 1 : Nat) : Int) + 1) 16 1 = ((14 - i : Nat) : Int) := by decide +kernel
theorem uvsTo_len (i : Nat) (hi : i ≤ 15) : (uvsTo i).length ≤ 14 * i := by
  induction i with
  | zero => simp [uvsTo]
  | succ i ih =>
    rw [uvsTo_succ, List.length_append]
    have h1 := ih (by omega)
    have h2 : (uvsIn i (14 - i)).length ≤ 14 - i := by
      unfold uvsIn
      refine Nat.le_trans (List.length_filter_le _ _) ?_
      simp
    omega
section
open PyProof.Rows.LCg
variable {prog : Program} {w : World} {A : Around} {E : Value → Shared → Prop} {s : Shared} {h₀ : Heap} {L : Addr} {m : Str → Option Value} {env : Env}
theorem planes_go {elt i0 i1 c : Expr} {xu xv : Str} {pu pv : Pos} {scope : Scope} {cl : List (Str × Addr)} {pos : Pos} {news : Led} {Fin : Shared → Addr → List Value → Led → Nat → Prop} {r : Addr} {tr ur vr : Tok} (st : PlaneSteps prog w A h₀ L m env i1 c elt xu xv scope cl s)
    (hh : A.handled = none) (hkind : scope.kind = .function) (hxu : scope.names.lookup xu = some .local) (hxv : scope.names.lookup xv = some .local) (huv : ¬ xu = xv)
    (hs : ∀ (env : Env) (x : Value), foldedSetIterable i1 env x = pure x)
    (F : Fr h₀ L s.heap m) (N : News h₀ L s.heap news) (hr : IsRange s.heap r 1 16 1 tr ur vr)
    (fin : ∀ s₂ D ys pl tk, (∃ h tk, s₂ = { s with heap := h, toks := tk }) → (∀ p ∈ news, p.1 < D) → PlanesAre D ys pl (uvsTo 15) → (∀ p ∈ pl, @LT.lt Nat _ D p.1) → Fin s₂ D ys (pl ++ news) tk) :
    wpAny (model prog w) A (pyIter (.ref r)) (CompGo prog w A h₀ L m env (.ListComp elt [⟨.Name xu pu, i0, [], 0⟩, ⟨.Name xv pv, i1, [c], 0⟩] scope pos) scope cl Fin) E s := by
  refine wpAny_pyIter_range hr (by decide) ?_
  have hLI : L < s.heap.objs.size := F.ns.lt
  have hlt : ∀ p ∈ news, p.1 < s.heap.objs.size := fun p hp => Heap.lt_size (N p hp).1
  have hz : ∀ x, h₀.objs.size ≤ x → h₀.get? x = none := fun x hx => Heap.get?_none_of_le hx
  have hbase : h₀.objs.size ≤ s.heap.objs.size := Nat.le_trans F.above (Nat.le_of_lt hLI)
  generalize hI : s.heap.objs.size = I at *
  have W := range_walks (prog := prog) (w := w) (A := A) (I := I) hh 1 15
  generalize hH : s.heap.push _ = H
  have hIo : IsRangeIter H I (1 + ((0 : Nat) : Int) * 1) ((15 : Nat) - ((0 : Nat) : Int)) 1 := by
    rw [← hH, ← hI]
    exact Heap.get?_push_size _ rfl
  have up : ∀ b o, s.heap.get? b = some o → H.get? b = some o := fun b o e => hH ▸ Heap.get?_push_of_some _ e
  refine ⟨I, news, rfl, F.keeps up, N.grown up, by show I < H.objs.size; exact Heap.lt_size hIo, fun h tk Q E' hk' hQ => W.self 0 _ _ _ (hk' _ _ hIo) hQ, ?_⟩
  intro D C oC h tk RR hD hID hLD hDC hD₀ hC₀ htk hk' hoC F' N' hRR
  replace hIo : IsRangeIter h I (1 + ((0 : Nat) : Int) * 1) ((15 : Nat) - ((0 : Nat) : Int)) 1 := hk' _ _ hIo
  have hIz : ∀ x, I ≤ x → h₀.get? x = none := fun x hx => hz x (Nat.le_trans hbase hx)
  have hLC : L ≠ C := Nat.ne_of_lt (Nat.lt_trans hLD hDC)
  refine loop_two0 (hs := hs _)
    (fun k s' => Ex7 fun h' tk' i ys pl oC' m' => An10 (s' = { s with heap := h', toks := tk' }) (tk ≤ tk') (i ≤ 15) (k = 16 - i) (IsRangeIter h' I (1 + ((i : Nat) : Int) * 1) (((15 : Nat) : Int) - ((i : Nat) : Int)) 1) (Fr h₀ L h' m) (NsObj oC' m') (News h₀ L h' ((C, oC') :: (D, lst ys) :: (pl ++ news))) ((∀ p ∈ pl, @LT.lt Nat _ C p.1)) (PlanesAre D ys pl (uvsTo i))) ?_ 16
    ⟨h, tk, 0, [], [], oC, _, rfl, Nat.le_refl _, Nat.zero_le _, rfl, hIo, F', hoC, N', (fun p hp => nomatch hp), PlanesAre.nil D⟩
  rintro k s' ⟨h₁, tk₁, i, ys, pl, oC₁, m₁, rfl, hle, hi, rfl, hI₁, F₁, hoC₁, N₁, hpl, hPl⟩
  have offI : ∀ p ∈ (C, oC₁) :: (D, lst ys) :: (pl ++ news), p.1 ≠ I := fun p hp => by
    refine mem_elim hp ?_ fun hp => ?_
    · exact Nat.ne_of_gt (Nat.lt_trans hID hDC)
    refine mem_elim hp ?_ fun hp => ?_
    · exact Nat.ne_of_gt hID
    rcases List.mem_append.mp hp with hp | hp
    · exact Nat.ne_of_gt (Nat.lt_trans hID (Nat.lt_trans hDC (hpl p hp)))
    · exact Nat.ne_of_lt (hlt p hp)
  by_cases hlt' : i < 15
  · refine wpAny_toks' (W.item i _ _ _ hlt' hI₁ fun v h₂ tk₂ hv hI₂ hk₂ hle₂ => ?_)
    replace hle₂ : tk₁ ≤ tk₂ := hle₂
    have F₂ := fr_but F₁ hk₂ (Nat.ne_of_lt hLI) (hIz _ (Nat.le_refl _))
    have N₂ := news_but N₁ hk₂ offI
    obtain ⟨tv, rfl⟩ := hv
    refine wpAny_assign_Name (wpAny_storeName_local (lookup_relabel_local hxu) (hoC₁.ns (N₂ (C, oC₁) (.head _)).1) (fun h₃ hn₃ hs₃ => ?_) (by simp [compEnvC, relabel, hkind]))
    obtain ⟨oC₃, heC₃, hoC₃⟩ := ns_obj hn₃
    have F₃ : Fr h₀ L h₃ m := F₂.change hs₃ (Ne.symm hLC) hC₀
    have oth₃ : ∀ x o, x ≠ C → h₂.get? x = some o → h₃.get? x = some o := fun x o hx e => hs₃.extBut x o hx e
    have hI₃ : IsRangeIter h₃ I (1 + ((i + 1 : Nat) : Int) * 1) (((15 : Nat) : Int) - ((i + 1 : Nat) : Int)) 1 := oth₃ _ _ (Nat.ne_of_lt (Nat.lt_trans hID hDC)) hI₂
    have N₃ : News h₀ L h₃ ((I, _) :: (C, oC₃) :: (D, lst ys) :: (pl ++ news)) := fun p hp => by
      refine mem_elim hp ?_ fun hp => ?_
      · exact ⟨hI₃, Nat.ne_of_gt hLI, hIz _ (Nat.le_refl _)⟩
      refine mem_elim hp ?_ fun hp => ?_
      · exact ⟨heC₃, Ne.symm hLC, hC₀⟩
      · have z := N₂ p (.tail _ hp)
        refine ⟨oth₃ _ _ ?_ z.1, z.2⟩
        refine mem_elim hp ?_ fun hp => ?_
        · exact Nat.ne_of_lt hDC
        rcases List.mem_append.mp hp with hp | hp
        · exact Nat.ne_of_gt (hpl p hp)
        · exact Nat.ne_of_lt (Nat.lt_trans (hD p hp) hDC)
    have ev : (1 + (i : Int)) = ((i + 1 : Nat) : Int) := by omega
    have hu₃ : (fun x => if x = xu then some (Value.int (1 + (i : Int)) tv) else m₁ x) xu = some (.int ((i + 1 : Nat) : Int) tv) := by simp only [if_true]; rw [ev]
    refine wpAny_toks' (wpAny_mono (st.iter (i + 1) tv I _ C oC₃ D ys _ h₃ _ _ (by omega) (by omega) hoC₃ hu₃ F₃ N₃) (fun x s₄ h₄ htk₄ => ?_) fun _ _ e => e)
    obtain ⟨r', t', u', v', h₄, tk₄, rfl, rfl, F₄, N₄, hr'⟩ := h₄
    replace htk₄ : tk₂ + 1 ≤ tk₄ := htk₄
    obtain ⟨hsm, hsz⟩ := range_facts i hlt'
    refine wpAny_pyIter_range hr' hsm ?_
    generalize hJ : Heap.push h₄ _ = h₅
    have hJo : h₅.get? h₄.objs.size = _ := hJ ▸ Heap.get?_push_size _ rfl
    rw [hsz] at hJo
    have hJ5 : IsRangeIter h₅ h₄.objs.size (((i + 1 : Nat) : Int) + 1 + ((0 : Nat) : Int) * 1) (((14 - i : Nat) : Int) - ((0 : Nat) : Int)) 1 := by
      show h₅.get? _ = some _
      rw [hJo]
      simp
    have up₅ : ∀ b o, h₄.get? b = some o → h₅.get? b = some o := fun b o e => hJ ▸ Heap.get?_push_of_some _ e
    have F₅ := F₄.keeps up₅
    have N₅ := N₄.grown up₅
    have hCJ : C < h₄.objs.size := Heap.lt_size (N₄ (C, oC₃) (.tail _ (.head _))).1
    have hplJ : ∀ p ∈ pl, @LT.lt Nat _ p.1 h₄.objs.size := fun p hp => Heap.lt_size (N₄ p (.tail _ (.tail _ (.tail _ (List.mem_append_left _ hp))))).1
    have hIJ : I ≤ h₄.objs.size := Nat.le_of_lt (Nat.lt_trans (Nat.lt_trans hID hDC) hCJ)
    have inner : codeAny (model prog w) A (.compLoop (.ListComp elt [⟨.Name xu pu, i0, [], 0⟩, ⟨.Name xv pv, i1, [c], 0⟩] scope pos) 1 (.ref h₄.objs.size) (.ref D) (compEnvC scope cl C env))
        (fun (r : Result) s₅ => match r with | .ok _ => (∃ mm, mm < 16 - i ∧ Ex7 fun h' tk' i ys pl oC' m' => An10 (s₅ = { s with heap := h', toks := tk' }) (tk ≤ tk') (i ≤ 15) (mm = 16 - i) (IsRangeIter h' I (1 + ((i : Nat) : Int) * 1) (((15 : Nat) : Int) - ((i : Nat) : Int)) 1) (Fr h₀ L h' m) (NsObj oC' m') (News h₀ L h' ((C, oC') :: (D, lst ys) :: (pl ++ news))) ((∀ p ∈ pl, @LT.lt Nat _ C p.1)) (PlanesAre D ys pl (uvsTo i))) | .error _ => False) { s with heap := h₅, toks := tk₄ } := by
      refine planes_inner (i := i) (t := tv) (prs := uvsTo i) st hh hkind hxv huv hlt' hLD hID hDC hCJ (fun x hx => hIz x (Nat.le_trans hIJ hx)) hC₀ hD₀ hD (fun p hp => ⟨hpl p hp, hplJ p hp⟩) hPl ?_ hoC₃ hu₃ F₅ N₅ hJ5 ?_
      · have := uvsTo_len i hi
        exact Nat.le_trans (m := 14 * 15 + 14) (by omega) (by decide)
      · intro h' tk' ys' pl' oC' m' hle' F'' hoC'' N'' hpl'' hPl''
        refine ⟨16 - (i + 1), Nat.sub_lt_sub_left (Nat.lt_succ_of_lt (by assumption)) (Nat.lt_succ_self i), h', tk', i + 1, ys', pl', oC', m', rfl, by omega, hlt', rfl, (N'' _ (.head _)).1, F'', hoC'', fun p hp => N'' p (.tail _ hp), hpl'', ?_⟩
        rw [uvsTo_succ]; exact hPl''
    exact start_two1 inner ((range_walks (prog := prog) (w := w) (A := A) (I := h₄.objs.size) hh (((i + 1 : Nat) : Int) + 1) (14 - i)).self 0 _ _ _ hJ5 inner)
  · obtain rfl : i = 15 := Nat.le_antisymm hi (Nat.not_lt.mp hlt')
    refine wpAny_toks' (W.done _ _ _ hI₁ fun h₂ tk₂ hk₂ hle₂ => ?_)
    replace hle₂ : tk₁ ≤ tk₂ := hle₂
    refine hRR h₂ tk₂ ys (pl ++ news) oC₁ m₁ (Nat.le_trans hle hle₂) (fr_but F₁ hk₂ (Nat.ne_of_lt hLI) (hIz _ (Nat.le_refl _))) hoC₁ (news_but N₁ hk₂ offI) (fun p hp => ?_) (fin _ D ys pl tk₂ ⟨_, _, rfl⟩ hD hPl (fun p hp => Nat.lt_trans hDC (hpl p hp)))
    refine mem_elim hp ?_ fun hp => ?_
    · exact Nat.ne_of_lt hDC
    rcases List.mem_append.mp hp with hp | hp
    · exact Nat.ne_of_gt (hpl p hp)
    · exact Nat.ne_of_lt (Nat.lt_trans (hD p hp) hDC)
end
end
theorem off_T17 : True := by
  w_top off
  trivial
section
theorem bx_all : ∀ a < 16, ∀ b < 16, Builtin.bitXor ((a : Nat) : Int) ((b : Nat) : Int) = ((a ^^^ b : Nat) : Int) := by decide +kernel
theorem bx (a b : Nat) (ha : a < 16) (hb : b < 16) : Builtin.bitXor (a : Int) (b : Int) = ((a ^^^ b : Nat) : Int) := bx_all a ha b hb
theorem allLt_mem {d : Nat} : ∀ {l : Led}, AllLt d l → ∀ p ∈ l, @LT.lt Nat _ p.1 d
  | [], _, _, h => nomatch h
  | q :: r, x, p, h => by
    rcases List.mem_cons.mp h with rfl | h
    · exact x.1
    · exact allLt_mem x.2 p h
theorem imgs_len4 (f : Nat → Int) : (imgs f 4).length = 16 := by simp [imgs]
theorem uvs_small : ∀ p ∈ uvs, p.1 < 16 ∧ p.2 < 16 ∧ p.1 ^^^ p.2 < 16 := by rw [uvs_is]; decide +kernel
theorem uvsTo_15 : uvsTo 15 = uvs := rfl
/-- how many of each plane's points stay in it -/
noncomputable def insL (ns : List Int) : List Nat := uvs.map fun p => insideOf ns p.1 p.2 ((p.1 ^^^ p.2 : Nat) : Int)
theorem insL_len (ns : List Int) : (insL ns).length = 35 := by rw [insL, List.length_map, uvs_len]
theorem insL_at (ns : List Int) {i u v : Nat} (h : uvs[i]? = some (u, v)) : (insL ns).getD i 0 = insideOf ns u v ((u ^^^ v : Nat) : Int) := by
  unfold insL
  rw [List.getD_eq_getElem?_getD, List.getElem?_map, h]; rfl
theorem ins_le (ns : List Int) (a b c : Int) : insideOf ns a b c ≤ 3 := by
  unfold insideOf
  exact Nat.le_trans List.countP_le_length (Nat.le_refl 3)
theorem range_count (l : List Nat) (k : Nat) : (List.range l.length).countP (fun i => l.getD i 0 == k) = l.countP (· == k) := by
  have : (List.range l.length).map (fun i => l.getD i 0) = l := by
    apply List.ext_getElem
    · simp
    · intro i h1 h2
      simp [List.getD_eq_getElem?_getD, h2]
  conv => rhs; rw [← this]
  rw [List.countP_map]
  rfl
end
theorem off_W20 : True := by
  w_top off
  trivial
section
theorem SpecK.mono {w : World} {dd uu : Nat} {f : Addr} {vs : List Value} {kw : List (Str × Value)} {news : Led} {Ret Ret' : Heap → Nat → Value → Led → Prop} (h : SpecK w dd uu f vs kw news Ret) (hm : ∀ H tk r n, Ret H tk r n → Ret' H tk r n) : SpecK w dd uu f vs kw news Ret' := by
  intro loose mean mg mb dp un gd cn cs a ccd cl outer A₀ base h₀ L m s R B F X N T hk hd hu hR
  exact h loose mean mg mb dp un gd cn cs a ccd cl outer A₀ base h₀ L m s R B F X N T hk hd hu fun r h' tk' news' F' N' K' hle R' => hR r h' tk' news' F' N' K' hle (hm _ _ _ _ R')
theorem small_le (n : Nat) (h : n ≤ 3) : smallInt (n : Int) = true := by
  rcases lt4 (i := n) (Nat.lt_succ_of_le h) with rfl | rfl | rfl | rfl <;> decide
/-- countOf over a list of small ints whose tokens are older than the literal's -/
theorem count_vals_spec (w : World) (D : Nat) (ys : List Value) (vals : List Nat) (b : Nat) (tb : Tok) (hlen : ys.length = vals.length) (hz : vals.length ≤ 1000) (hpos : 0 < vals.length) (h3 : ∀ i, vals.getD i 0 ≤ 3)
    (hV : ∀ (i : Nat) y, ys[i]? = some y → ∃ tc, y = .int ((vals.getD i 0 : Nat) : Int) tc ∧ 0 < tc ∧ tc < tb) :
    SpecK w 8 64 78 [.ref D, .int (b : Int) tb] [] [(D, LCg.lst ys)] (fun _ _ r n' => (∃ tc, r = .int ((vals.countP (· == b) : Nat) : Int) tc) ∧ n' = [(D, LCg.lst ys)]) := by
  have hb0 : tb ≠ 0 := by
    obtain ⟨y, hy⟩ : ∃ y, ys[0]? = some y := ⟨_, List.getElem?_eq_getElem (by omega)⟩
    obtain ⟨tc, _, h1, h2⟩ := hV 0 y hy
    exact Nat.ne_of_gt (Nat.lt_trans h1 h2)
  refine (count_list_spec w D ys.toArray ys.length (.int (b : Int) tb) (fun i => vals.getD i 0 == b) (by rw [List.size_toArray, hlen]; exact hz) fun i v hv => ?_).mono fun H tk r n' hr => ?_
  · have e0 : ys.toArray[i]? = ys[i]? := by simp
    rw [e0] at hv
    obtain ⟨tc, rfl, h1, h2⟩ := hV i v hv
    have := CmpOk.int (w := w) (p := ((vals.getD i 0 : Nat) : Int)) (q := (b : Int)) (Nat.ne_of_gt h1) hb0 (small_le _ (h3 i)) (fun _ => Nat.ne_of_lt h2)
    have e : (((vals.getD i 0 : Nat) : Int) == (b : Int)) = (vals.getD i 0 == b) := by
      rw [Bool.eq_iff_iff]; simp only [beq_iff_eq]; omega
    rw [e] at this
    exact this
  · obtain ⟨⟨tc, hr, _⟩, hn⟩ := hr
    refine ⟨⟨tc, ?_⟩, hn⟩
    rw [hr, List.size_toArray, hlen, range_count]
theorem insL_le (ns : List Int) (i : Nat) : (insL ns).getD i 0 ≤ 3 := by
  by_cases h : i < uvs.length
  · rw [insL_at ns (u := uvs[i].1) (v := uvs[i].2) (by rw [List.getElem?_eq_getElem h])]
    exact ins_le _ _ _ _
  · rw [List.getD_eq_getElem?_getD, List.getElem?_eq_none (by rw [insL_len]; rw [uvs_len] at h; omega)]
    exact Nat.zero_le _
/-- a contract that only adds is used: the caller's ledger stays, the new objects before it -/
theorem SpecK.useA {w : World} {dd uu : Nat} {f : Addr} {vs : List Value} {kw : List (Str × Value)} {ps : Led} {Ret : Nat → Value → Led → Prop} (h : SpecK w dd uu f vs kw ps (fun _ tk r n' => ∃ new, Ret tk r new ∧ n' = new ++ ps))
    {loose : List Str} {mean : ExcName → Option Value} {mg mb : Str → Option Value} {dp un : Nat} {gd : Option (List Code)} {cn : Str} {cs : Scope} {a : Addr} {ccd : Value} {cl : List (Str × Addr)} {outer : List Env} {A₀ : Around} {base h₀ : Heap} {L : Addr} {m : Str → Option Value} {s : Shared} {Q E : Value → Shared → Prop} {led : Led}
    (B : Below A₀ base outer h₀) (F : Fr h₀ L s.heap m) (X : (hd.heap_1 w.params).In h₀) (N : News h₀ L s.heap led) (T : Top view loose mean mg mb h₀) (hk : cs.kind = .function)
    (hd : dp + dd < recursionLimit) (hu : un + uu < cLine) (h1 : ∀ p ∈ ps, p ∈ led)
    (hR : ∀ r h' tk' new, Fr h₀ L h' m → News h₀ L h' (new ++ led) → s.toks ≤ tk' → Ret tk' r new → Q r { s with heap := h', toks := tk' }) :
    wpAny (model Challenge.rw_wj0050_01.row.prog w) (ktrTop dp un gd cn cs L a ccd cl outer) (call (.ref f) vs kw) Q E s := by
  refine SpecK.use h (led.filter fun q => !((ps.map (·.1)).contains q.1)) B F X N T hk hd hu h1 (fun p hp => (List.mem_filter.mp hp).1) (fun p hp => by simpa using (List.mem_filter.mp hp).2) fun r h' tk' n' F' N' _ hle R' => ?_
  obtain ⟨new, hr, rfl⟩ := R'
  refine hR r h' tk' new F' (fun q hq => ?_) hle hr
  rcases List.mem_append.mp hq with hq | hq
  · exact N' q (List.mem_append_left _ (List.mem_append_left _ hq))
  by_cases c : q.1 ∈ ps.map (·.1)
  · obtain ⟨p, hp, e⟩ := List.mem_map.mp c
    have z := N q hq
    have z' := N p (h1 p hp)
    have e' : q.2 = p.2 := Option.some.inj (z.1.symm.trans (e ▸ z'.1))
    have zz := N' p (List.mem_append_left _ (List.mem_append_right _ hp))
    have : q = p := Prod.ext e.symm e'
    rw [this]
    exact zz
  · exact N' q (List.mem_append_right _ (List.mem_filter.mpr ⟨hq, by simpa using c⟩))
theorem law_turned_add (w : World) (T : Nat) (m0 m1 m2 m3 : Int) (u0 u1 u2 u3 : Tok) (n : Nat) : SpecK w 16 128 299 [.ref T] [] [(T, listOf #[.int m0 u0, .int m1 u1, .int m2 u2, .int m3 u3] n)]
    (fun _ _ r n' => ∃ new, (∃ Y t0 t1 t2 t3 k', r = .ref Y ∧ new = [(Y, listOf #[.int (turnedOf [m0, m1, m2, m3] 0) t0, .int (turnedOf [m0, m1, m2, m3] 1) t1, .int (turnedOf [m0, m1, m2, m3] 2) t2, .int (turnedOf [m0, m1, m2, m3] 3) t3] k')]) ∧ n' = new ++ [(T, listOf #[.int m0 u0, .int m1 u1, .int m2 u2, .int m3 u3] n)]) := by
  refine (law_turned_spec w T [.int m0 u0, .int m1 u1, .int m2 u2, .int m3 u3] [m0, m1, m2, m3] n (by repeat constructor) rfl).mono fun H tk r n' h => ?_
  obtain ⟨Y, t0, t1, t2, t3, k', hr, hn⟩ := h
  exact ⟨_, ⟨Y, t0, t1, t2, t3, k', hr, rfl⟩, hn⟩
theorem law_images_add (w : World) (T : Nat) (m0 m1 m2 m3 : Int) (u0 u1 u2 u3 : Tok) (n : Nat) : SpecK w 32 256 294 [.ref T] [] [(T, listOf #[.int m0 u0, .int m1 u1, .int m2 u2, .int m3 u3] n)]
    (fun _ _ r n' => ∃ new, (∃ X l k, r = .ref X ∧ IntsAre l (imgs (mOf m0 m1 m2 m3) 4) ∧ new = [(X, listOf l.toArray k)]) ∧ n' = new ++ [(T, listOf #[.int m0 u0, .int m1 u1, .int m2 u2, .int m3 u3] n)]) := by
  refine (law_images_spec w T m0 m1 m2 m3 u0 u1 u2 u3 n).mono fun H tk r n' h => ?_
  obtain ⟨X, l, k, hr, hl, hn⟩ := h
  exact ⟨_, ⟨X, l, k, hr, hl, rfl⟩, hn⟩
end
theorem off_M2 : True := by
  w_top off
  trivial
section
noncomputable def imgsN (g : Nat → Nat) : Nat → List Nat
  | 0 => [0]
  | i + 1 => imgsN g i ++ (imgsN g i).map fun x => x ^^^ g i
theorem imgs_nat (g : Nat → Nat) (hg : ∀ i, g i < 16) : ∀ i, (∀ x ∈ imgsN g i, x < 16) ∧ imgs (fun i => (g i : Int)) i = (imgsN g i).map fun x : Nat => (x : Int)
  | 0 => ⟨by simp [imgsN], rfl⟩
  | i + 1 => by
    obtain ⟨h1, h2⟩ := imgs_nat g hg i
    refine ⟨fun x hx => ?_, ?_⟩
    · rcases List.mem_append.mp hx with hx | hx
      · exact h1 x hx
      · obtain ⟨y, hy, rfl⟩ := List.mem_map.mp hx
        exact Nat.xor_lt_two_pow (n := 4) (h1 y hy) (hg i)
    · show imgs _ i ++ (imgs _ i).map _ = (imgsN g i ++ (imgsN g i).map _).map _
      rw [h2, List.map_append, List.map_map, List.map_map]
      congr 1
      exact List.map_congr_left fun x hx => bx x (g i) (h1 x hx) (hg i)
theorem imgsN_4 (g : Nat → Nat) : imgsN g 4 = (List.range 16).map (mapN (g 0) (g 1) (g 2) (g 3)) := by
  have h : ∀ a b c d : Nat, (List.range 16).map (mapN a b c d) = [0, a, b, a ^^^ b, c, a ^^^ c, b ^^^ c, a ^^^ b ^^^ c, d, a ^^^ d, b ^^^ d, a ^^^ b ^^^ d, c ^^^ d, a ^^^ c ^^^ d, b ^^^ c ^^^ d, a ^^^ b ^^^ c ^^^ d] := fun a b c d => by
    show [mapN a b c d 0, mapN a b c d 1, mapN a b c d 2, mapN a b c d 3, mapN a b c d 4, mapN a b c d 5, mapN a b c d 6, mapN a b c d 7, mapN a b c d 8, mapN a b c d 9, mapN a b c d 10, mapN a b c d 11, mapN a b c d 12, mapN a b c d 13, mapN a b c d 14, mapN a b c d 15] = _
    have e : ∀ p q r s : Bool, ∀ x : Nat, x.testBit 0 = p → x.testBit 1 = q → x.testBit 2 = r → x.testBit 3 = s → mapN a b c d x = (if p then a else 0) ^^^ (if q then b else 0) ^^^ (if r then c else 0) ^^^ (if s then d else 0) := fun p q r s x h0 h1 h2 h3 => by unfold mapN; rw [h0, h1, h2, h3]
    rw [e false false false false 0 (by decide) (by decide) (by decide) (by decide), e true false false false 1 (by decide) (by decide) (by decide) (by decide), e false true false false 2 (by decide) (by decide) (by decide) (by decide), e true true false false 3 (by decide) (by decide) (by decide) (by decide),
      e false false true false 4 (by decide) (by decide) (by decide) (by decide), e true false true false 5 (by decide) (by decide) (by decide) (by decide), e false true true false 6 (by decide) (by decide) (by decide) (by decide), e true true true false 7 (by decide) (by decide) (by decide) (by decide),
      e false false false true 8 (by decide) (by decide) (by decide) (by decide), e true false false true 9 (by decide) (by decide) (by decide) (by decide), e false true false true 10 (by decide) (by decide) (by decide) (by decide), e true true false true 11 (by decide) (by decide) (by decide) (by decide),
      e false false true true 12 (by decide) (by decide) (by decide) (by decide), e true false true true 13 (by decide) (by decide) (by decide) (by decide), e false true true true 14 (by decide) (by decide) (by decide) (by decide), e true true true true 15 (by decide) (by decide) (by decide) (by decide)]
    simp only [if_true, Bool.false_eq_true, if_false, Nat.zero_xor, Nat.xor_zero]
  rw [h]
  simp only [imgsN, List.map_cons, List.map_nil, List.map_append, List.cons_append, List.nil_append, Nat.zero_xor]
/-- the list of images is the map's table -/
theorem imgs_is (a b c d : Nat) (ha : a < 16) (hb : b < 16) (hc : c < 16) (hd : d < 16) : imgs (mOf (a : Int) (b : Int) (c : Int) (d : Int)) 4 = (List.range 16).map fun x => ((mapN a b c d x : Nat) : Int) := by
  have e : (mOf (a : Int) (b : Int) (c : Int) (d : Int)) = fun i => (((match i with | 0 => a | 1 => b | 2 => c | _ => d : Nat)) : Int) := by
    funext i
    match i with
    | 0 => rfl
    | 1 => rfl
    | 2 => rfl
    | i + 3 => rfl
  rw [e, (imgs_nat _ (fun i => by match i with
    | 0 => exact ha
    | 1 => exact hb
    | 2 => exact hc
    | i + 3 => exact hd) 4).2, imgsN_4, List.map_map]
  rfl
theorem table_at (f : Nat → Nat) (x : Nat) (hx : x < 16) : ((List.range 16).map fun x => ((f x : Nat) : Int)).getD x 0 = ((f x : Nat) : Int) := by
  rw [List.getD_eq_getElem?_getD, List.getElem?_map, List.getElem?_range hx]; rfl
theorem any_cast (l : List Nat) (y : Nat) : ((l.map fun x : Nat => (x : Int)).any fun x => x == (y : Int)) = l.any fun x => x == y := by
  rw [List.any_map]
  congr 1
  funext x
  rw [Bool.eq_iff_iff]; simp only [Function.comp, beq_iff_eq]; omega
theorem lines_is (f : Nat → Nat) : linesOf ((List.range 16).map fun x => ((f x : Nat) : Int)) = linesN f := by
  unfold linesOf linesN
  have e : rangeKs 1 15 = (List.range' 1 15).map fun x : Nat => (x : Int) := by decide
  rw [e, List.filter_map, List.length_map, ← List.countP_eq_length_filter]
  refine List.countP_congr fun k hk => ?_
  have hk16 : k < 16 := by have := List.mem_range'_1.mp hk; omega
  simp only [Function.comp]
  rw [Int.toNat_natCast, table_at f k hk16]
  have := any_cast [0, k] (f k)
  simp only [List.map_cons, List.map_nil] at this
  rw [← this]; rfl
theorem inside_is (f : Nat → Nat) (p : Nat × Nat) (hp : p ∈ uvs) : insideOf ((List.range 16).map fun x => ((f x : Nat) : Int)) p.1 p.2 ((p.1 ^^^ p.2 : Nat) : Int) = insideN f p := by
  obtain ⟨h1, h2, h3⟩ := uvs_small p hp
  unfold insideOf insideN
  have e : [((p.1 : Nat) : Int), ((p.2 : Nat) : Int), ((p.1 ^^^ p.2 : Nat) : Int)] = [p.1, p.2, p.1 ^^^ p.2].map fun x : Nat => (x : Int) := rfl
  rw [e, List.countP_map]
  refine List.countP_congr fun q hq => ?_
  have hq16 : q < 16 := by
    simp only [List.mem_cons, List.mem_nil_iff, or_false] at hq
    rcases hq with rfl | rfl | rfl <;> assumption
  simp only [Function.comp]
  rw [Int.toNat_natCast, table_at f q hq16]
  have := any_cast [0, p.1, p.2, p.1 ^^^ p.2] (f q)
  simp only [List.map_cons, List.map_nil] at this
  rw [← this]; rfl
theorem ins_is (f : Nat → Nat) : insL ((List.range 16).map fun x => ((f x : Nat) : Int)) = uvs.map (insideN f) := List.map_congr_left fun p hp => inside_is f p hp
theorem bit_is : ∀ i : Nat, i < 4 → ∀ a : Nat, a < 16 → Builtin.bitAnd (((a : Nat) : Int).fdiv (2 ^ (0 + (i : Int)).toNat)) 1 = (((if a.testBit i then 1 else 0) : Nat) : Int) := by decide +kernel
theorem turned_is (a b c d : Nat) (ha : a < 16) (hb : b < 16) (hc : c < 16) (hd : d < 16) (i : Nat) (hi : i < 4) : turnedOf [(a : Int), (b : Int), (c : Int), (d : Int)] i = ((trN a b c d i : Nat) : Int) := by
  have e : rangeKs 0 (4 - 0 : Int).toNat = [0, 1, 2, 3] := by decide
  unfold turnedOf
  rw [e]
  show Builtin.bitAnd ((a : Int).fdiv _) 1 * 2 ^ (0 : Nat) + (Builtin.bitAnd ((b : Int).fdiv _) 1 * 2 ^ (1 : Nat) + (Builtin.bitAnd ((c : Int).fdiv _) 1 * 2 ^ (2 : Nat) + (Builtin.bitAnd ((d : Int).fdiv _) 1 * 2 ^ (3 : Nat) + 0))) = _
  rw [bit_is i hi a ha, bit_is i hi b hb, bit_is i hi c hc, bit_is i hi d hd]
  unfold trN
  cases a.testBit i <;> cases b.testBit i <;> cases c.testBit i <;> cases d.testBit i <;> decide
/-- what the law asks of the told images -/
theorem law_math {m0 m1 m2 m3 : Int} {ns nt : List Int} (h0 : 0 ≤ m0 ∧ m0 ≤ 15) (h1 : 0 ≤ m1 ∧ m1 ≤ 15) (h2 : 0 ≤ m2 ∧ m2 ≤ 15) (h3 : 0 ≤ m3 ∧ m3 ≤ 15) (hns : imgs (mOf m0 m1 m2 m3) 4 = ns)
    (hnt : imgs (mOf (turnedOf [m0, m1, m2, m3] 0) (turnedOf [m0, m1, m2, m3] 1) (turnedOf [m0, m1, m2, m3] 2) (turnedOf [m0, m1, m2, m3] 3)) 4 = nt) :
    linesOf nt = linesOf ns ∧ (((insL ns).countP (· == 1) : Nat) : Int) = 15 + 6 * (linesOf ns : Nat) - 3 * ((insL ns).countP (· == 3) : Nat) ∧ (((insL ns).countP (· == 0) : Nat) : Int) = 20 - 6 * (linesOf ns : Nat) + 2 * ((insL ns).countP (· == 3) : Nat) := by
  obtain ⟨a, rfl⟩ := Int.eq_ofNat_of_zero_le h0.1
  obtain ⟨b, rfl⟩ := Int.eq_ofNat_of_zero_le h1.1
  obtain ⟨c, rfl⟩ := Int.eq_ofNat_of_zero_le h2.1
  obtain ⟨d, rfl⟩ := Int.eq_ofNat_of_zero_le h3.1
  have ha : a < 16 := by omega
  have hb : b < 16 := by omega
  have hc : c < 16 := by omega
  have hd : d < 16 := by omega
  rw [turned_is a b c d ha hb hc hd 0 (by decide), turned_is a b c d ha hb hc hd 1 (by decide), turned_is a b c d ha hb hc hd 2 (by decide), turned_is a b c d ha hb hc hd 3 (by decide), imgs_is _ _ _ _ (trN_lt _ _ _ _ _) (trN_lt _ _ _ _ _) (trN_lt _ _ _ _ _) (trN_lt _ _ _ _ _)] at hnt
  rw [imgs_is a b c d ha hb hc hd] at hns
  subst hns hnt
  rw [lines_is, lines_is, ins_is]
  exact ⟨lines_turned a b c d ha hb hc hd, plane_law a b c d ha hb hc hd⟩
end
theorem off_T15 : True := by
  w_top off
  trivial
section
/-- one item of a comprehension is told, with its tokens -/
noncomputable def EltEndK (h₀ : Heap) (L : Addr) (m : Str → Option Value) (s₁ : Shared) (led : Led) (V : Value → Nat → Prop) (y : Value) (s₂ : Shared) : Prop :=
  Ex2 fun h' tk => An4 (s₂ = { s₁ with heap := h', toks := tk }) (Fr h₀ L h' m) (News h₀ L h' led) (V y tk)
section
open PyProof.Rows.LCg
variable {prog : Program} {w : World} {A : Around} {E : Value → Shared → Prop} {s : Shared} {h₀ : Heap} {L : Addr} {m : Str → Option Value} {env : Env}
/-- a comprehension over a list of the ledger: its loop, the tokens told -/
theorem list_go {elt iter : Expr} {x : Str} {px : Pos} {scope : Scope} {cl : List (Str × Addr)} {pos : Pos} {Fin : Shared → Addr → List Value → Led → Nat → Prop} {l : Addr} {its : Array Value} {k : Nat} {news : Led} (V : Nat → Value → Nat → Prop) (Vmono : ∀ i y a b, a ≤ b → V i y a → V i y b)
    (hh : A.handled = none) (F : Fr h₀ L s.heap m) (N : News h₀ L s.heap news) (hm : (l, listOf its k) ∈ news) (hsz : its.size ≤ sizeLine)
    (hkind : scope.kind = .function) (hx : scope.names.lookup x = some .local)
    (step : ∀ (i : Nat) v I oI C oC D ys m₂ h tk E', its[i]? = some v → NsObj oC m₂ → m₂ x = some v → Fr h₀ L h m → News h₀ L h ((I, oI) :: (C, oC) :: (D, lst ys) :: news) → (D < C ∧ I < D) → (∀ p ∈ news, p.1 < I) →
      wpAny (model prog w) A (eval elt (compEnvC scope cl C env)) (EltEndK h₀ L m { s with heap := h, toks := tk } ((I, oI) :: (C, oC) :: (D, lst ys) :: news) (V i)) E' { s with heap := h, toks := tk })
    (fin : ∀ s₂ D ys tk, (∃ h tk, s₂ = { s with heap := h, toks := tk }) → (∀ p ∈ news, p.1 < D) → ys.length = its.size → (∀ i y, ys[i]? = some y → V i y tk) → Fin s₂ D ys news tk) :
    wpAny (model prog w) A (pyIter (.ref l)) (CompGo prog w A h₀ L m env (.ListComp elt [⟨.Name x px, iter, [], 0⟩] scope pos) scope cl Fin) E s := by
  have hl : s.heap.IsList l its := N.isList hm
  have hlt : ∀ p ∈ news, p.1 < s.heap.objs.size := fun p hp => Heap.lt_size (N p hp).1
  have hLI : L < s.heap.objs.size := F.ns.lt
  refine wpAny_pyIter_list hl ?_
  have hbase : h₀.objs.size ≤ s.heap.objs.size := Nat.le_trans F.above (Nat.le_of_lt hLI)
  generalize hI : s.heap.objs.size = I at *
  have hIz : ∀ x, I ≤ x → h₀.get? x = none := fun x hx => Heap.get?_none_of_le (Nat.le_trans hbase hx)
  have W := Walks.list (prog := prog) (w := w) (A := A) hh I l (Nat.ne_of_lt (hlt _ hm)) its
  generalize hH : s.heap.push _ = H
  have up : ∀ b o, s.heap.get? b = some o → H.get? b = some o := fun b o e => hH ▸ Heap.get?_push_of_some _ e
  have hIo : H.IsListIter I l 0 := ⟨_, hH ▸ hI ▸ Heap.get?_push_size _ rfl, rfl, rfl⟩
  have hl' : H.IsList l its := hl.at fun o e => up _ o e
  refine ⟨I, news, rfl, F.keeps up, N.grown up, by show I < H.objs.size; obtain ⟨o, e, _⟩ := hIo; exact Heap.lt_size e, fun h tk Q E' hk' hQ => W.self 0 _ _ _ ⟨hIo.at fun o e => hk' _ o e, hl'.at fun o e => hk' _ o e⟩ hQ, ?_⟩
  intro D C oC h tk RR hD hID hLD hDC hD₀ hC₀ htk hk' hoC F' N' hRR
  have hLC : L ≠ C := Nat.ne_of_lt (Nat.lt_trans hLD hDC)
  refine codeAny_compLoop_tests
    (fun k' s' => Ex6 fun h' tk' i ys oC' m' => An10 (s' = { s with heap := h', toks := tk' }) (tk ≤ tk') (i ≤ its.size) (k' = its.size + 1 - i) (ys.length = i) (h'.IsListIter I l i) (Fr h₀ L h' m) (NsObj oC' m') (News h₀ L h' ((C, oC') :: (D, lst ys) :: news)) (∀ j y, ys[j]? = some y → V j y tk')) ?_ (its.size + 1)
    ⟨h, tk, 0, [], oC, _, rfl, Nat.le_refl _, Nat.zero_le _, rfl, rfl, hIo.at fun o e => hk' _ o e, F', hoC, N', by intro j y h; simp at h⟩
  rintro k' s' ⟨h₁, tk₁, i, ys, oC₁, m₁, rfl, hle, hi, rfl, hyl, hI₁, F₁, hoC₁, N₁, hV⟩
  have offI : ∀ p ∈ (C, oC₁) :: (D, lst ys) :: news, p.1 ≠ I := fun p hp => by
    refine mem_elim hp ?_ fun hp => ?_
    · exact Nat.ne_of_gt (Nat.lt_trans hID hDC)
    refine mem_elim hp ?_ fun hp => ?_
    · exact Nat.ne_of_gt hID
    · exact Nat.ne_of_lt (hlt p hp)
  have hl₁ : h₁.IsList l its := News.isList (N := fun p hp => N₁ p (.tail _ (.tail _ hp))) hm
  by_cases hlt' : i < its.size
  · refine wpAny_toks' (W.item i _ _ _ hlt' ⟨hI₁, hl₁⟩ fun v h₂ tk₂ hv hI₂ hk₂ hle₂ => ?_)
    replace hle₂ : tk₁ ≤ tk₂ := hle₂
    have F₂ := fr_but F₁ hk₂ (Nat.ne_of_lt hLI) (hIz _ (Nat.le_refl _))
    have N₂ := news_but N₁ hk₂ offI
    refine wpAny_assign_Name (wpAny_storeName_local (lookup_relabel_local hx) (hoC₁.ns (N₂ (C, oC₁) (.head _)).1) (fun h₃ hn₃ hs₃ => ?_) (by simp [compEnvC, relabel, hkind]))
    refine wpAny_tests_nil ?_
    simp only [if_true]
    obtain ⟨oC₃, heC₃, hoC₃⟩ := ns_obj hn₃
    have F₃ : Fr h₀ L h₃ m := F₂.change hs₃ (Ne.symm hLC) hC₀
    have oth₃ : ∀ x o, x ≠ C → h₂.get? x = some o → h₃.get? x = some o := fun x o hx e => hs₃.extBut x o hx e
    obtain ⟨oI, heI, rI⟩ := hI₂.1
    have N₃ : News h₀ L h₃ ((I, oI) :: (C, oC₃) :: (D, lst ys) :: news) := fun p hp => by
      refine mem_elim hp ?_ fun hp => ?_
      · exact ⟨oth₃ _ _ (Nat.ne_of_lt (Nat.lt_trans hID hDC)) heI, Nat.ne_of_gt hLI, hIz _ (Nat.le_refl _)⟩
      refine mem_elim hp ?_ fun hp => ?_
      · exact ⟨heC₃, Ne.symm hLC, hC₀⟩
      · have z := N₂ p (.tail _ hp)
        refine ⟨oth₃ _ _ ?_ z.1, z.2⟩
        refine mem_elim hp ?_ fun hp => ?_
        · exact Nat.ne_of_lt hDC
        · exact Nat.ne_of_lt (Nat.lt_trans (hD p hp) hDC)
    refine wpAny_toks' (wpAny_mono (step i v I oI C oC₃ D ys _ h₃ _ _ hv hoC₃ (by simp) F₃ N₃ ⟨hDC, hID⟩ hlt) (fun y s₄ h₄ htk₄ => ?_) fun _ _ e => e)
    obtain ⟨h₄, tk₄, rfl, F₄, N₄, hy⟩ := h₄
    replace htk₄ : tk₂ + 1 ≤ tk₄ := htk₄
    have zD := (N₄ (D, lst ys) (.tail _ (.tail _ (.head _)))).1
    refine append_at (hsz := by show ys.toArray.size ≤ sizeLine; rw [List.size_toArray, hyl]; exact Nat.le_trans hi hsz) zD fun h₅ hs₅ hD₅ => ?_
    have oth₅ : ∀ x o, x ≠ D → h₄.get? x = some o → h₅.get? x = some o := fun x o hb e => (hs₅.2 x hb).trans e
    refine ⟨its.size + 1 - (i + 1), subL (by assumption), h₅, tk₄, i + 1, ys ++ [y], oC₃, _, rfl, by omega, hlt', rfl, by rw [List.length_append, List.length_singleton, hyl], ⟨oI, oth₅ _ _ (Nat.ne_of_lt hID) (N₄ _ (.head _)).1, rI⟩, F₄.change hs₅ (Nat.ne_of_gt hLD) hD₀, hoC₃, fun p hp => ?_, fun j y' hj => ?_⟩
    · refine mem_elim hp ?_ fun hp => ?_
      · have z := N₄ (C, oC₃) (.tail _ (.head _)); exact ⟨oth₅ _ _ (Nat.ne_of_gt hDC) z.1, z.2⟩
      refine mem_elim hp ?_ fun hp => ?_
      · have z := N₄ (D, lst ys) (.tail _ (.tail _ (.head _))); exact ⟨hD₅.trans (congrArg some (lst_snoc ys y)), z.2⟩
      · have z := N₄ p (.tail _ (.tail _ (.tail _ hp))); exact ⟨oth₅ _ _ (Nat.ne_of_lt (hD p hp)) z.1, z.2⟩
    · by_cases hji : j < ys.length
      · rw [List.getElem?_append_left hji] at hj; exact Vmono _ _ _ _ (by omega) (hV j y' hj)
      · rw [List.getElem?_append_right (Nat.le_of_not_lt hji)] at hj
        have hj0 : j = i := by
          have : j - ys.length < 1 := (List.getElem?_eq_some_iff.mp hj).1
          exact jEq (by assumption) hji this
        subst hj0
        rw [hyl, Nat.sub_self] at hj
        cases hj
        exact hy
  · obtain rfl : i = its.size := Nat.le_antisymm hi (Nat.not_lt.mp hlt')
    refine wpAny_toks' (W.done _ _ _ ⟨hI₁, hl₁⟩ fun h₂ tk₂ hk₂ hle₂ => ?_)
    replace hle₂ : tk₁ ≤ tk₂ := hle₂
    refine hRR h₂ tk₂ ys news oC₁ m₁ (Nat.le_trans hle hle₂) (fr_but F₁ hk₂ (Nat.ne_of_lt hLI) (hIz _ (Nat.le_refl _))) hoC₁ (news_but N₁ hk₂ offI) (fun p hp => ?_) (fin _ D ys tk₂ ⟨_, _, rfl⟩ hD hyl fun j y e => Vmono _ _ _ _ hle₂ (hV j y e))
    refine mem_elim hp ?_ fun hp => ?_
    · exact Nat.ne_of_lt hDC
    · exact Nat.ne_of_lt (Nat.lt_trans (hD p hp) hDC)
end
end
theorem off_T16 : True := by
  w_top off
  trivial
section
theorem ints_pick {vs : List Value} {ns : List Int} (hi : IntsAre vs ns) : ∀ js : List Nat, IntsAre (js.filterMap (vs.toArray[·]?)) (js.filterMap (ns[·]?))
  | [] => .nil
  | j :: js => by
    by_cases h : j < ns.length
    · obtain ⟨t, ht⟩ := hi.get j ns[j] (by simp [h])
      rw [List.filterMap_cons_some (b := Value.int ns[j] t) (by simpa using ht), List.filterMap_cons_some (b := ns[j]) (by simp [h])]
      exact .cons _ _ (ints_pick hi js)
    · rw [List.filterMap_cons_none (by simp [hi.length]; omega), List.filterMap_cons_none (by simp; omega)]
      exact ints_pick hi js
theorem pick4 {vs : List Value} {ns : List Int} (hi : IntsAre vs ns) {x : Int} (h0 : 0 ≤ x) : ∃ ms, IntsAre (slicePick vs.toArray (some x) (some 16) (some 4)).toList ms ∧ ms.length ≤ 4 := by
  refine ⟨_, ints_pick hi _, Nat.le_trans (List.length_filterMap_le _ _) ?_⟩
  simp only [sliceBounds, Option.getD_some, if_neg (show ¬ (x < 0) by omega), show ¬ ((16 : Int) < 0) by decide, show (4 : Int) > 0 by decide, if_true, if_false]
  unfold sliceRange
  simp only [show (4 : Int) > 0 by decide, if_true, List.length_map, List.length_range]
  have hH : max 0 (min 16 (vs.toArray.size : Int)) ≤ 16 := Int.max_le.mpr ⟨by decide, Int.min_le_left _ _⟩
  have hL := Int.le_max_left 0 (min x (vs.toArray.size : Int))
  revert hH hL
  generalize max 0 (min 16 (vs.toArray.size : Int)) = H
  generalize max 0 (min x (vs.toArray.size : Int)) = Lo
  intro hH hL
  clear h0 hi
  split <;> omega
section
variable {prog : Program} {w : World} {A : Around} {E : Value → Shared → Prop} {s : Shared} {h₀ : Heap} {L l : Addr} {m : Str → Option Value} {news : Led} {value slice : PySem.Expr} {vs : List Value} {ns : List Int} {vl vu vk : Value} {x : Int} {ops : List Value} {Q : Value → Shared → Prop}
theorem slice4 (F : Fr h₀ L s.heap m) (N : News h₀ L s.heap news) (hl : s.heap.IsList l vs.toArray) (hi : IntsAre vs ns) (h0 : 0 ≤ x) (pl : IsPart vl (some x)) (pu : IsPart vu (some 16)) (pk : IsPart vk (some 4))
    (h : ∀ D ws ms h', Fr h₀ L h' m → News h₀ L h' ((D, listOf (List.toArray ws) 0) :: news) → (∀ p ∈ news, p.1 < D) → IntsAre ws ms → ms.length ≤ 4 → Q (.ref D) { s with heap := h' })
    (hs : subscripted slice false (.ref l) (.ref s.heap.objs.size) = operate ops (getItem (.ref l) (.ref s.heap.objs.size))) (ht : ∀ r, letTemporaryGo value (.ref l) r = pure ()) (hz : vs.toArray.size ≤ sizeLine) :
    wpAny (model prog w) A (subscriptTail value slice (.ref l) (.ref s.heap.objs.size)) Q E { s with heap := s.heap.push { cls := .type "slice", data := .fields #[vl, vu, vk] } } := by
  obtain ⟨ms, hms, hlen⟩ := pick4 hi h0
  refine kmk_slice3_lit F N hl pl pu pk (by decide) rfl (fun D h' F' N' l1 => h D _ ms h' F' N' l1 hms hlen) hs ht hz
end
theorem sum_mod (ms : List Int) (h : ms.length ≤ 4) : 0 ≤ (ms.map fun x => x.fmod 4096).sum ∧ (ms.map fun x => x.fmod 4096).sum ≤ 16380 := by
  have : ∀ ms : List Int, 0 ≤ (ms.map fun x => x.fmod 4096).sum ∧ (ms.map fun x => x.fmod 4096).sum ≤ 4095 * (ms.length : Int) := fun ms => by
    induction ms with
    | nil => exact ⟨by decide, by decide⟩
    | cons x xs ih =>
      rw [List.map_cons, List.sum_cons, List.length_cons]
      have := Int.fmod_nonneg_of_pos x (show (0 : Int) < 4096 by decide)
      have := Int.fmod_lt_of_pos x (show (0 : Int) < 4096 by decide)
      omega
  have := this ms
  omega
end
theorem off_W21 : True := by
  w_top off
  trivial
section
theorem three_b {x : Int} (h : 0 ≤ x ∧ x ≤ 2) : 1 ≤ 1 + x ∧ 1 + x ≤ 3 := by omega
theorem three_o {x : Int} (h : 0 ≤ x ∧ x ≤ 2) : 1 + x = 1 ∨ 1 + x = 2 ∨ 1 + x = 3 := by omega
theorem three_c {x : Int} (h : x = 1 ∨ x = 2 ∨ x = 3) : 1 ≤ x ∧ x ≤ 3 := by omega
theorem nat16 {n : Nat} (h : n < 16) : 0 ≤ (n : Int) ∧ (n : Int) ≤ 15 := ⟨Int.natCast_nonneg n, Int.ofNat_le.mpr (Nat.le_of_lt_succ h)⟩
theorem size4 {ws : List Value} {ms : List Int} (hi : IntsAre ws ms) (h : ms.length ≤ 4) : ws.toArray.size ≤ sizeLine := by
  rw [List.size_toArray, hi.length]; exact Nat.le_trans h (by decide)
theorem led_drop2 {h₀ h : Heap} {L : Addr} {q q' : Addr × Obj} {r : Led} (N : News h₀ L h (q :: q' :: r)) : News h₀ L h (q :: r) := fun p hp => N p (by
  refine mem_elim hp ?_ fun hp => ?_
  · exact .head _
  · exact .tail _ (.tail _ hp))
local macro_rules | `(tactic| walk_at "CompSrc") => `(tactic| (k_here; (with_reducible rename List.length _ ≤ 4 => h4); k_dflt (refine LCg.CompSrc.ledger (by rfl) (by k_asm) (by k_asm) (by k_mem) (size4 (by assumption) h4) ?_); intro g'; k_dflt (refine' kcf_list _ (by assumption) (fun k' t' I' oI' C' oC' D' m' ys' h' tk' E' hk' hC' hx' F' N' off' ne' hMark' => ?_) ?_); (all_goals (try (simp only [LCg.Off3, and_true] at off'))); kcf_last))
local macro_rules | `(tactic| walk_at "subscriptTail Name Slice ref ref") => `(tactic| walk_at "H")
local macro_rules | `(tactic| walk_at "eval ListComp") => `(tactic| ((with_reducible show wpAny _ _ (eval (PySem.Expr.ListComp _ [⟨_, PySem.Expr.Subscript _ _ _, _, _⟩] _ _) _) _ _ _); walk_at "H"))
theorem ne_data {h₀ h : Heap} {L a b : Addr} {oa ob : Obj} {led : Led} (N : News h₀ L h led) (ha : (a, oa) ∈ led) (hb : (b, ob) ∈ led) (hne : oa.data ≠ ob.data) : a ≠ b := fun e => hne (congrArg Obj.data (Option.some.inj ((N _ ha).1.symm.trans ((congrArg h.get? e).trans (N _ hb).1))))
theorem seq_cell {xs : Array Value} {n : Nat} {o : Obj} {v : Option Value} (h : o.data = .cell v) : (listOf xs n).data ≠ o.data := by rw [h]; intro e; cases e
local macro_rules | `(tactic| walk_at "pyIter ref") => `(tactic| walk_at "H")
local macro_rules | `(tactic| walk_at "ite") => `(tactic| (k_here; (with_reducible rename linesOf _ = linesOf _ => hLL); rw [if_neg (by rw [bne_self_eq_false]; exact Bool.false_ne_true)]))
structure TokMark : Prop where
theorem tok_cut {α : Type} {M : Model} {A : Around} {t : Sem α} {Q : α → Shared → Prop} {E : Value → Shared → Prop} {s : Shared} (t0 : Nat) (h0 : t0 ≤ s.toks) (h : ∀ tk, t0 ≤ tk → wpAny M A t Q E { s with toks := tk }) : wpAny M A t Q E s := h s.toks h0
local macro_rules | `(tactic| walk_at "execs cons If cons") => `(tactic| (k_here; (with_reducible rename TokMark => tm9); clear tm9; refine halt ?_))
local macro_rules | `(tactic| walk_at "call ref") => `(tactic| walk_at "H")
local macro_rules | `(tactic| walk_at "exec Assign cons ListComp") => `(tactic| (k_here; refine halt ?_))
local macro_rules | `(tactic| walk_at "call type:enumerate") => `(tactic| (k_here; refine halt ?_))
local macro_rules | `(tactic| k_qdec) => `(tactic| decide +kernel)
theorem law_holds : Challenge.rw_wj0050_01.Holds := hd ⟨left, by
  k_go0
  (with_reducible rename Obj.data _ = Data.cell _ => hcS); revert hcS; (with_reducible rename Obj.data _ = Data.cell _ => hcI); intro hcS
  (all_goals try k_fold)
  (repeat' (first | (unfold Hold; first | ((with_reducible show wpAny _ _ (call (Value.ref _) _ _) _ _ _); first | (with_reducible (refine halt ?_)) | (refine halt ?_)) | ((with_reducible show wpAny _ _ (pyIter _) (CompGo _ _ _ _ _ _ _ _ _ _ _) _ _); first | (with_reducible (refine halt ?_)) | (refine halt ?_)) | ((with_reducible show wpAny _ _ (eval (PySem.Expr.ListComp _ [⟨_, PySem.Expr.Subscript _ _ _, _, _⟩] _ _) _) _ _ _); first | (with_reducible (k_dflt (refine LCg.ListComp_U (F₀ := by k_asm) (by with_unfolding_all rfl) (by decide) (by rfl) (by decide) (by rfl) ?_))) | (k_dflt (refine LCg.ListComp_U (F₀ := by k_asm) (by with_unfolding_all rfl) (by decide) (by rfl) (by decide) (by rfl) ?_))) | ((with_reducible show wpAny _ _ (subscriptTail _ _ (Value.ref _) (Value.ref _)) _ _ _); first | (with_reducible (k_dflt (refine' slice4 ?zF ?zN ?zl ?zi ?z0 ?zp ?zq ?zr ?_ ?zs ?zt ?zz; (case zp => exact IsPart.int _ _); (case zq => exact IsPart.int _ _); (case zr => exact IsPart.int _ _); (case zF => k_asm); (case zN => k_asm); (case zl => kmk_list); (case zi => l_ints); (case z0 => omega); (case zs => with_unfolding_all rfl); (case zt => kmk_pure); (case zz => kmk_size)); intro D' ws' ms' h' F' N' l1 hI' hC'; (try k_lt l1))) | (k_dflt (refine' slice4 ?zF ?zN ?zl ?zi ?z0 ?zp ?zq ?zr ?_ ?zs ?zt ?zz; (case zp => exact IsPart.int _ _); (case zq => exact IsPart.int _ _); (case zr => exact IsPart.int _ _); (case zF => k_asm); (case zN => k_asm); (case zl => kmk_list); (case zi => l_ints); (case z0 => omega); (case zs => with_unfolding_all rfl); (case zt => kmk_pure); (case zz => kmk_size)); intro D' ws' ms' h' F' N' l1 hI' hC'; (try k_lt l1))) | (have hz9 : NoHalt := ⟨⟩; walk1; all_goals (try clear hz9))) | (k_unfold; (try dsimp only)) | (k_end; wrow_close) | walk1 | (dsimp only; walk1) | (leave1; walk_say "STEP leave1"; try dsimp only) | fail "no step"))
  unfold Halt
  (with_reducible rename Fr _ _ _ _ => FF)
  refine Assign_comp FF (by rfl) (by with_unfolding_all rfl) (by with_unfolding_all rfl) (by decide) (by rfl) (by decide) (by rfl) (by rfl) ?_
  (repeat' (first | (unfold Hold; first | ((with_reducible show wpAny _ _ (call (Value.ref _) _ _) _ _ _); first | (with_reducible (refine halt ?_)) | (refine halt ?_)) | ((with_reducible show wpAny _ _ (pyIter _) (CompGo _ _ _ _ _ _ _ _ _ _ _) _ _); first | (with_reducible (refine halt ?_)) | (refine halt ?_)) | ((with_reducible show wpAny _ _ (eval (PySem.Expr.ListComp _ [⟨_, PySem.Expr.Subscript _ _ _, _, _⟩] _ _) _) _ _ _); first | (with_reducible (k_dflt (refine LCg.ListComp_U (F₀ := by k_asm) (by with_unfolding_all rfl) (by decide) (by rfl) (by decide) (by rfl) ?_))) | (k_dflt (refine LCg.ListComp_U (F₀ := by k_asm) (by with_unfolding_all rfl) (by decide) (by rfl) (by decide) (by rfl) ?_))) | ((with_reducible show wpAny _ _ (subscriptTail _ _ (Value.ref _) (Value.ref _)) _ _ _); first | (with_reducible (k_dflt (refine' slice4 ?zF ?zN ?zl ?zi ?z0 ?zp ?zq ?zr ?_ ?zs ?zt ?zz; (case zp => exact IsPart.int _ _); (case zq => exact IsPart.int _ _); (case zr => exact IsPart.int _ _); (case zF => k_asm); (case zN => k_asm); (case zl => kmk_list); (case zi => l_ints); (case z0 => omega); (case zs => with_unfolding_all rfl); (case zt => kmk_pure); (case zz => kmk_size)); intro D' ws' ms' h' F' N' l1 hI' hC'; (try k_lt l1))) | (k_dflt (refine' slice4 ?zF ?zN ?zl ?zi ?z0 ?zp ?zq ?zr ?_ ?zs ?zt ?zz; (case zp => exact IsPart.int _ _); (case zq => exact IsPart.int _ _); (case zr => exact IsPart.int _ _); (case zF => k_asm); (case zN => k_asm); (case zl => kmk_list); (case zi => l_ints); (case z0 => omega); (case zs => with_unfolding_all rfl); (case zt => kmk_pure); (case zz => kmk_size)); intro D' ws' ms' h' F' N' l1 hI' hC'; (try k_lt l1))) | (have hz9 : NoHalt := ⟨⟩; walk1; all_goals (try clear hz9))) | (k_unfold; (try dsimp only)) | (k_end; wrow_close) | walk1 | (dsimp only; walk1) | (leave1; walk_say "STEP leave1"; try dsimp only) | fail "no step"))
  unfold Halt
  (with_reducible rename Fr _ _ _ _ => FF)
  (with_reducible rename News _ _ _ _ => NN)
  (with_reducible rename IntsAre _ _ => hIs)
  refine enum_go (fun _ y => ∃ c t, y = .int c t ∧ 0 ≤ c ∧ c ≤ 100000) rfl FF NN (by k_mem) (by exact Nat.le_of_ble_eq_true rfl) (by rfl) (by rfl) (by rfl) (by decide) ?step ?fin
  case step =>
    intro i x t e oe I oI C oC D ys m₂ h tk E' hx hoC ha hb F1 N1 hlts hlt2
    clear FF NN
    obtain ⟨v, tv, rfl, hv0, hv1⟩ : ∃ v tv, x = .int v tv ∧ 0 ≤ v ∧ v ≤ 2000 := by
      match i, hx with
      | 0, hx => cases hx; exact ⟨_, _, rfl, by decide, by decide⟩
      | 1, hx => cases hx; exact ⟨_, _, rfl, by decide, by decide⟩
      | 2, hx => cases hx; exact ⟨_, _, rfl, by decide, by decide⟩
      | 3, hx => cases hx; exact ⟨_, _, rfl, by decide, by decide⟩
      | i + 4, hx => cases hx
    (repeat' (first | (unfold Hold; first | ((with_reducible show wpAny _ _ (call (Value.ref _) _ _) _ _ _); first | (with_reducible (refine halt ?_)) | (refine halt ?_)) | ((with_reducible show wpAny _ _ (pyIter _) (CompGo _ _ _ _ _ _ _ _ _ _ _) _ _); first | (with_reducible (refine halt ?_)) | (refine halt ?_)) | ((with_reducible show wpAny _ _ (eval (PySem.Expr.ListComp _ [⟨_, PySem.Expr.Subscript _ _ _, _, _⟩] _ _) _) _ _ _); first | (with_reducible (k_dflt (refine LCg.ListComp_U (F₀ := by k_asm) (by with_unfolding_all rfl) (by decide) (by rfl) (by decide) (by rfl) ?_))) | (k_dflt (refine LCg.ListComp_U (F₀ := by k_asm) (by with_unfolding_all rfl) (by decide) (by rfl) (by decide) (by rfl) ?_))) | ((with_reducible show wpAny _ _ (subscriptTail _ _ (Value.ref _) (Value.ref _)) _ _ _); first | (with_reducible (k_dflt (refine' slice4 ?zF ?zN ?zl ?zi ?z0 ?zp ?zq ?zr ?_ ?zs ?zt ?zz; (case zp => exact IsPart.int _ _); (case zq => exact IsPart.int _ _); (case zr => exact IsPart.int _ _); (case zF => k_asm); (case zN => k_asm); (case zl => kmk_list); (case zi => l_ints); (case z0 => omega); (case zs => with_unfolding_all rfl); (case zt => kmk_pure); (case zz => kmk_size)); intro D' ws' ms' h' F' N' l1 hI' hC'; (try k_lt l1))) | (k_dflt (refine' slice4 ?zF ?zN ?zl ?zi ?z0 ?zp ?zq ?zr ?_ ?zs ?zt ?zz; (case zp => exact IsPart.int _ _); (case zq => exact IsPart.int _ _); (case zr => exact IsPart.int _ _); (case zF => k_asm); (case zN => k_asm); (case zl => kmk_list); (case zi => l_ints); (case z0 => omega); (case zs => with_unfolding_all rfl); (case zt => kmk_pure); (case zz => kmk_size)); intro D' ws' ms' h' F' N' l1 hI' hC'; (try k_lt l1))) | (have hz9 : NoHalt := ⟨⟩; walk1; all_goals (try clear hz9))) | (k_unfold; (try dsimp only)) | (k_end; wrow_close) | walk1 | (dsimp only; walk1) | (leave1; walk_say "STEP leave1"; try dsimp only) | fail "no step"))
    (with_reducible rename News _ _ _ _ => NE)
    (with_reducible rename List.length _ ≤ 4 => h4)
    have hb := sum_mod _ h4
    refine EltEnd.intro (by k_asm) (fun p hp => NE p (.tail _ (.tail _ hp))) ⟨_, _, rfl, by omega, by omega⟩
  case fin =>
    intro s₂ D ys tk hs₂ hD hyl hV
    obtain ⟨h', tk', rfl⟩ := hs₂
    obtain ⟨a, b, c, d, rfl, ⟨a0, t0, rfl, ha0⟩, ⟨a1, t1, rfl, ha1⟩, ⟨a2, t2, rfl, ha2⟩, a3, t3, rfl, ha3⟩ := four_list hyl hV
    intro h tk9 hle F1 N1
    replace N1 := led_drop2 N1
    clear FF NN
    have hDs := hD
    (repeat' (first | (unfold Hold; first | ((with_reducible show wpAny _ _ (call (Value.ref _) _ _) _ _ _); first | (with_reducible (refine halt ?_)) | (refine halt ?_)) | ((with_reducible show wpAny _ _ (pyIter _) (CompGo _ _ _ _ _ _ _ _ _ _ _) _ _); first | (with_reducible (refine halt ?_)) | (refine halt ?_)) | ((with_reducible show wpAny _ _ (eval (PySem.Expr.ListComp _ [⟨_, PySem.Expr.Subscript _ _ _, _, _⟩] _ _) _) _ _ _); first | (with_reducible (k_dflt (refine LCg.ListComp_U (F₀ := by k_asm) (by with_unfolding_all rfl) (by decide) (by rfl) (by decide) (by rfl) ?_))) | (k_dflt (refine LCg.ListComp_U (F₀ := by k_asm) (by with_unfolding_all rfl) (by decide) (by rfl) (by decide) (by rfl) ?_))) | ((with_reducible show wpAny _ _ (subscriptTail _ _ (Value.ref _) (Value.ref _)) _ _ _); first | (with_reducible (k_dflt (refine' slice4 ?zF ?zN ?zl ?zi ?z0 ?zp ?zq ?zr ?_ ?zs ?zt ?zz; (case zp => exact IsPart.int _ _); (case zq => exact IsPart.int _ _); (case zr => exact IsPart.int _ _); (case zF => k_asm); (case zN => k_asm); (case zl => kmk_list); (case zi => l_ints); (case z0 => omega); (case zs => with_unfolding_all rfl); (case zt => kmk_pure); (case zz => kmk_size)); intro D' ws' ms' h' F' N' l1 hI' hC'; (try k_lt l1))) | (k_dflt (refine' slice4 ?zF ?zN ?zl ?zi ?z0 ?zp ?zq ?zr ?_ ?zs ?zt ?zz; (case zp => exact IsPart.int _ _); (case zq => exact IsPart.int _ _); (case zr => exact IsPart.int _ _); (case zF => k_asm); (case zN => k_asm); (case zl => kmk_list); (case zi => l_ints); (case z0 => omega); (case zs => with_unfolding_all rfl); (case zt => kmk_pure); (case zz => kmk_size)); intro D' ws' ms' h' F' N' l1 hI' hC'; (try k_lt l1))) | (have hz9 : NoHalt := ⟨⟩; walk1; all_goals (try clear hz9))) | (k_unfold; (try dsimp only)) | (k_end; wrow_close) | walk1 | (dsimp only; walk1) | (leave1; walk_say "STEP leave1"; try dsimp only) | fail "no step"))
    unfold Halt
    (with_reducible rename Fr _ _ _ _ => FF)
    (with_reducible rename News _ _ _ _ => NN)
    refine' Spec.use (law_page_spec _ _ _ _ _ _ t0 t1 t2 t3 4 _ _ ha0 ha1 ha2 ha3 ?htu) _ ?k1 FF ?k3 NN ?k5 ?kK ?kd ?ku ?h1 (fun p hp => List.mem_cons_of_mem _ hp) ?h3 ?_
    case htu => exact three_b (fmod3 _)
    case k1 => first | k_asm | fail "spec: the frames below"
    case k3 => first | k_asm | fail "spec: the written part"
    case k5 => first | k_asm | fail "spec: top"
    case kK => exact rfl
    case kd => exact Nat.le_of_ble_eq_true rfl
    case ku => exact Nat.le_of_ble_eq_true rfl
    case h1 => exact fun p hp => by rw [List.mem_singleton.mp hp]; exact .head _
    case h3 => exact fun p hp e => Nat.lt_irrefl _ (List.mem_singleton.mp e ▸ hD p (.tail _ hp))
    intro r9 h9 tk9 n9 F9 N9 K9 R9
    obtain ⟨ls, xH, dH, lH, T2, T0, T3, T1, tkH, tbH, uH, rfl, rfl⟩ := R9
    clear FF NN K9
    simp only [headLed, pageLed, List.nil_append, List.cons_append] at N9
    (try dsimp only); (try k_fold)
    (repeat' (first | (unfold Hold; first | ((with_reducible show wpAny _ _ (call (Value.ref _) _ _) _ _ _); first | (with_reducible (refine halt ?_)) | (refine halt ?_)) | ((with_reducible show wpAny _ _ (pyIter _) (CompGo _ _ _ _ _ _ _ _ _ _ _) _ _); first | (with_reducible (refine halt ?_)) | (refine halt ?_)) | ((with_reducible show wpAny _ _ (eval (PySem.Expr.ListComp _ [⟨_, PySem.Expr.Subscript _ _ _, _, _⟩] _ _) _) _ _ _); first | (with_reducible (k_dflt (refine LCg.ListComp_U (F₀ := by k_asm) (by with_unfolding_all rfl) (by decide) (by rfl) (by decide) (by rfl) ?_))) | (k_dflt (refine LCg.ListComp_U (F₀ := by k_asm) (by with_unfolding_all rfl) (by decide) (by rfl) (by decide) (by rfl) ?_))) | ((with_reducible show wpAny _ _ (subscriptTail _ _ (Value.ref _) (Value.ref _)) _ _ _); first | (with_reducible (k_dflt (refine' slice4 ?zF ?zN ?zl ?zi ?z0 ?zp ?zq ?zr ?_ ?zs ?zt ?zz; (case zp => exact IsPart.int _ _); (case zq => exact IsPart.int _ _); (case zr => exact IsPart.int _ _); (case zF => k_asm); (case zN => k_asm); (case zl => kmk_list); (case zi => l_ints); (case z0 => omega); (case zs => with_unfolding_all rfl); (case zt => kmk_pure); (case zz => kmk_size)); intro D' ws' ms' h' F' N' l1 hI' hC'; (try k_lt l1))) | (k_dflt (refine' slice4 ?zF ?zN ?zl ?zi ?z0 ?zp ?zq ?zr ?_ ?zs ?zt ?zz; (case zp => exact IsPart.int _ _); (case zq => exact IsPart.int _ _); (case zr => exact IsPart.int _ _); (case zF => k_asm); (case zN => k_asm); (case zl => kmk_list); (case zi => l_ints); (case z0 => omega); (case zs => with_unfolding_all rfl); (case zt => kmk_pure); (case zz => kmk_size)); intro D' ws' ms' h' F' N' l1 hI' hC'; (try k_lt l1))) | (have hz9 : NoHalt := ⟨⟩; walk1; all_goals (try clear hz9))) | (k_unfold; (try dsimp only)) | (k_end; wrow_close) | walk1 | (dsimp only; walk1) | (leave1; walk_say "STEP leave1"; try dsimp only) | fail "no step"))
    unfold Halt
    have htu3 : 1 + (a0 + (a1 + (a2 + (a3 + 0)))).fmod 3 = 1 ∨ 1 + (a0 + (a1 + (a2 + (a3 + 0)))).fmod 3 = 2 ∨ 1 + (a0 + (a1 + (a2 + (a3 + 0)))).fmod 3 = 3 := by
      exact three_o (fmod3 _)
    (with_reducible rename Fr _ _ _ _ => FF)
    (with_reducible rename News _ _ _ _ => NN)
    refine' SpecK.useR (ps := headLed _ xH dH lH T2 T0 T3 T1 tkH uH (cellV a2) (cellV a0) (cellV a3) (cellV a1)) (Ret := fun _ r => ∃ t, r = .bytes _ t) (law_sent_spec _ xH dH lH T2 T0 T3 T1 tkH uH _ _ _ _ _ _ htu3 (cell_len _) (cell_len _) (cell_len _) (cell_len _) (cell_signs _) (cell_signs _) (cell_signs _) (cell_signs _)).toK ?k1 FF ?k3 NN ?k5 ?kK ?kd ?ku ?h1 ?_
    case k1 => k_asm
    case k3 => k_asm
    case k5 => k_asm
    case kK => exact rfl
    case kd => exact Nat.le_of_ble_eq_true rfl
    case ku => exact Nat.le_of_ble_eq_true rfl
    case h1 => exact fun p hp => List.mem_cons_of_mem _ (List.mem_cons_of_mem _ (List.mem_append_left [_, _] hp))
    intro r9 h9 tk9 F9 N9 _ R9
    obtain ⟨t9, rfl⟩ := R9
    clear FF NN
    have N10 : News _ _ h9 [_, _, _] := fun p hp => N9 p (by
      refine mem_elim hp ?_ fun hp => ?_
      · exact .tail _ (.head _)
      · exact .tail _ (.tail _ (List.mem_append_right (headLed _ xH dH lH T2 T0 T3 T1 tkH uH (cellV a2) (cellV a0) (cellV a3) (cellV a1)) hp)))
    clear N9
    (try dsimp only); (try k_fold)
    (repeat' (first | (unfold Hold; first | ((with_reducible show wpAny _ _ (call (Value.ref _) _ _) _ _ _); first | (with_reducible (refine halt ?_)) | (refine halt ?_)) | ((with_reducible show wpAny _ _ (pyIter _) (CompGo _ _ _ _ _ _ _ _ _ _ _) _ _); first | (with_reducible (refine halt ?_)) | (refine halt ?_)) | ((with_reducible show wpAny _ _ (eval (PySem.Expr.ListComp _ [⟨_, PySem.Expr.Subscript _ _ _, _, _⟩] _ _) _) _ _ _); first | (with_reducible (k_dflt (refine LCg.ListComp_U (F₀ := by k_asm) (by with_unfolding_all rfl) (by decide) (by rfl) (by decide) (by rfl) ?_))) | (k_dflt (refine LCg.ListComp_U (F₀ := by k_asm) (by with_unfolding_all rfl) (by decide) (by rfl) (by decide) (by rfl) ?_))) | ((with_reducible show wpAny _ _ (subscriptTail _ _ (Value.ref _) (Value.ref _)) _ _ _); first | (with_reducible (k_dflt (refine' slice4 ?zF ?zN ?zl ?zi ?z0 ?zp ?zq ?zr ?_ ?zs ?zt ?zz; (case zp => exact IsPart.int _ _); (case zq => exact IsPart.int _ _); (case zr => exact IsPart.int _ _); (case zF => k_asm); (case zN => k_asm); (case zl => kmk_list); (case zi => l_ints); (case z0 => omega); (case zs => with_unfolding_all rfl); (case zt => kmk_pure); (case zz => kmk_size)); intro D' ws' ms' h' F' N' l1 hI' hC'; (try k_lt l1))) | (k_dflt (refine' slice4 ?zF ?zN ?zl ?zi ?z0 ?zp ?zq ?zr ?_ ?zs ?zt ?zz; (case zp => exact IsPart.int _ _); (case zq => exact IsPart.int _ _); (case zr => exact IsPart.int _ _); (case zF => k_asm); (case zN => k_asm); (case zl => kmk_list); (case zi => l_ints); (case z0 => omega); (case zs => with_unfolding_all rfl); (case zt => kmk_pure); (case zz => kmk_size)); intro D' ws' ms' h' F' N' l1 hI' hC'; (try k_lt l1))) | (have hz9 : NoHalt := ⟨⟩; walk1; all_goals (try clear hz9))) | (k_unfold; (try dsimp only)) | (k_end; wrow_close) | walk1 | (dsimp only; walk1) | (leave1; walk_say "STEP leave1"; try dsimp only) | fail "no step"))
    unfold Halt
    (with_reducible rename Fr _ _ _ _ => FF)
    (with_reducible rename News _ _ _ _ => NN)
    refine' Spec.use (law_heard_spec _ a0 a1 a2 a3 _ _ _ ?htu) _ ?k1 FF ?k3 NN ?k5 ?kK ?kd ?ku (led_nil _) (led_self _) (led_none _) ?_
    case htu => exact three_c htu3
    case k1 => k_asm
    case k3 => k_asm
    case k5 => k_asm
    case kK => exact rfl
    case kd => exact Nat.le_of_ble_eq_true rfl
    case ku => exact Nat.le_of_ble_eq_true rfl
    intro r9 h9 tk9 n9 F9 N9 _ R9
    obtain ⟨T, u0, u1, u2, u3, rfl, rfl⟩ := R9
    clear FF NN
    simp only [List.nil_append, List.cons_append] at N9
    (try dsimp only); (try k_fold)
    (repeat' (first | (unfold Hold; first | ((with_reducible show wpAny _ _ (call (Value.ref _) _ _) _ _ _); first | (with_reducible (refine halt ?_)) | (refine halt ?_)) | ((with_reducible show wpAny _ _ (pyIter _) (CompGo _ _ _ _ _ _ _ _ _ _ _) _ _); first | (with_reducible (refine halt ?_)) | (refine halt ?_)) | ((with_reducible show wpAny _ _ (eval (PySem.Expr.ListComp _ [⟨_, PySem.Expr.Subscript _ _ _, _, _⟩] _ _) _) _ _ _); first | (with_reducible (k_dflt (refine LCg.ListComp_U (F₀ := by k_asm) (by with_unfolding_all rfl) (by decide) (by rfl) (by decide) (by rfl) ?_))) | (k_dflt (refine LCg.ListComp_U (F₀ := by k_asm) (by with_unfolding_all rfl) (by decide) (by rfl) (by decide) (by rfl) ?_))) | ((with_reducible show wpAny _ _ (subscriptTail _ _ (Value.ref _) (Value.ref _)) _ _ _); first | (with_reducible (k_dflt (refine' slice4 ?zF ?zN ?zl ?zi ?z0 ?zp ?zq ?zr ?_ ?zs ?zt ?zz; (case zp => exact IsPart.int _ _); (case zq => exact IsPart.int _ _); (case zr => exact IsPart.int _ _); (case zF => k_asm); (case zN => k_asm); (case zl => kmk_list); (case zi => l_ints); (case z0 => omega); (case zs => with_unfolding_all rfl); (case zt => kmk_pure); (case zz => kmk_size)); intro D' ws' ms' h' F' N' l1 hI' hC'; (try k_lt l1))) | (k_dflt (refine' slice4 ?zF ?zN ?zl ?zi ?z0 ?zp ?zq ?zr ?_ ?zs ?zt ?zz; (case zp => exact IsPart.int _ _); (case zq => exact IsPart.int _ _); (case zr => exact IsPart.int _ _); (case zF => k_asm); (case zN => k_asm); (case zl => kmk_list); (case zi => l_ints); (case z0 => omega); (case zs => with_unfolding_all rfl); (case zt => kmk_pure); (case zz => kmk_size)); intro D' ws' ms' h' F' N' l1 hI' hC'; (try k_lt l1))) | (have hz9 : NoHalt := ⟨⟩; walk1; all_goals (try clear hz9))) | (k_unfold; (try dsimp only)) | (k_end; wrow_close) | walk1 | (dsimp only; walk1) | (leave1; walk_say "STEP leave1"; try dsimp only) | fail "no step"))
    unfold Halt
    (with_reducible rename Fr _ _ _ _ => FF)
    (with_reducible rename News _ _ _ _ => NN)
    have N1 : News _ _ _ [(T, _), _, _] := fun p hp => NN p (by
      refine mem_elim hp ?_ fun hp => ?_
      · exact .tail _ (.head _)
      · exact .tail _ (.tail _ (.tail _ hp)))
    clear NN
    have e1 := ne_data N1 (.head _) (.tail _ (.head _)) (seq_cell hcI)
    have e2 := ne_data N1 (.head _) (.tail _ (.tail _ (.head _))) (seq_cell hcS)
    refine' SpecK.use (law_images_spec _ T (a0.fmod 16) (a1.fmod 16) (a2.fmod 16) (a3.fmod 16) u0 u1 u2 u3 0) _ ?k1 FF ?k3 N1 ?k5 ?kK ?kd ?ku ?h1 (fun p hp => List.mem_cons_of_mem _ hp) ?h3 ?_
    case k1 => k_asm
    case k3 => k_asm
    case k5 => k_asm
    case kK => exact rfl
    case kd => exact Nat.le_of_ble_eq_true rfl
    case ku => exact Nat.le_of_ble_eq_true rfl
    case h1 => exact fun p hp => by rw [List.mem_singleton.mp hp]; exact .head _
    case h3 =>
      intro p hp e
      replace e := List.mem_singleton.mp e
      rcases List.mem_cons.mp hp with rfl | hp
      · exact e1 e.symm
      · rw [List.mem_singleton.mp hp] at e; exact e2 e.symm
    intro r9 h9 tk9 n9 F9 N9 _ _ R9
    obtain ⟨X, lX, kX, rfl, hX, rfl⟩ := R9
    clear FF N1
    simp only [List.nil_append, List.cons_append] at N9
    have e3 := ne_data N9 (.head _) (.tail _ (.tail _ (.head _))) (seq_cell hcI)
    have e4 := ne_data N9 (.head _) (.tail _ (.tail _ (.tail _ (.head _)))) (seq_cell hcS)
    (try dsimp only); (try k_fold)
    (repeat' (first | (unfold Hold; first | ((with_reducible show wpAny _ _ (call (Value.ref _) _ _) _ _ _); first | (with_reducible (refine halt ?_)) | (refine halt ?_)) | ((with_reducible show wpAny _ _ (pyIter _) (CompGo _ _ _ _ _ _ _ _ _ _ _) _ _); first | (with_reducible (refine halt ?_)) | (refine halt ?_)) | ((with_reducible show wpAny _ _ (eval (PySem.Expr.ListComp _ [⟨_, PySem.Expr.Subscript _ _ _, _, _⟩] _ _) _) _ _ _); first | (with_reducible (k_dflt (refine LCg.ListComp_U (F₀ := by k_asm) (by with_unfolding_all rfl) (by decide) (by rfl) (by decide) (by rfl) ?_))) | (k_dflt (refine LCg.ListComp_U (F₀ := by k_asm) (by with_unfolding_all rfl) (by decide) (by rfl) (by decide) (by rfl) ?_))) | ((with_reducible show wpAny _ _ (subscriptTail _ _ (Value.ref _) (Value.ref _)) _ _ _); first | (with_reducible (k_dflt (refine' slice4 ?zF ?zN ?zl ?zi ?z0 ?zp ?zq ?zr ?_ ?zs ?zt ?zz; (case zp => exact IsPart.int _ _); (case zq => exact IsPart.int _ _); (case zr => exact IsPart.int _ _); (case zF => k_asm); (case zN => k_asm); (case zl => kmk_list); (case zi => l_ints); (case z0 => omega); (case zs => with_unfolding_all rfl); (case zt => kmk_pure); (case zz => kmk_size)); intro D' ws' ms' h' F' N' l1 hI' hC'; (try k_lt l1))) | (k_dflt (refine' slice4 ?zF ?zN ?zl ?zi ?z0 ?zp ?zq ?zr ?_ ?zs ?zt ?zz; (case zp => exact IsPart.int _ _); (case zq => exact IsPart.int _ _); (case zr => exact IsPart.int _ _); (case zF => k_asm); (case zN => k_asm); (case zl => kmk_list); (case zi => l_ints); (case z0 => omega); (case zs => with_unfolding_all rfl); (case zt => kmk_pure); (case zz => kmk_size)); intro D' ws' ms' h' F' N' l1 hI' hC'; (try k_lt l1))) | (have hz9 : NoHalt := ⟨⟩; walk1; all_goals (try clear hz9))) | (k_unfold; (try dsimp only)) | (k_end; wrow_close) | walk1 | (dsimp only; walk1) | (leave1; walk_say "STEP leave1"; try dsimp only) | fail "no step"))
    unfold Halt
    (with_reducible rename Fr _ _ _ _ => FF)
    (with_reducible rename News _ _ _ _ => NN)
    (with_reducible rename Obj.data _ = Data.cell (some (Value.ref X)) => hcX)
    refine Assign_comp FF (by rfl) (by with_unfolding_all rfl) (by with_unfolding_all rfl) (by decide) (by rfl) (by decide) (by rfl) (by rfl) ?_
    (repeat' (first | (unfold Hold; first | ((with_reducible show wpAny _ _ (call (Value.ref _) _ _) _ _ _); first | (with_reducible (refine halt ?_)) | (refine halt ?_)) | ((with_reducible show wpAny _ _ (pyIter _) (CompGo _ _ _ _ _ _ _ _ _ _ _) _ _); first | (with_reducible (refine halt ?_)) | (refine halt ?_)) | ((with_reducible show wpAny _ _ (eval (PySem.Expr.ListComp _ [⟨_, PySem.Expr.Subscript _ _ _, _, _⟩] _ _) _) _ _ _); first | (with_reducible (k_dflt (refine LCg.ListComp_U (F₀ := by k_asm) (by with_unfolding_all rfl) (by decide) (by rfl) (by decide) (by rfl) ?_))) | (k_dflt (refine LCg.ListComp_U (F₀ := by k_asm) (by with_unfolding_all rfl) (by decide) (by rfl) (by decide) (by rfl) ?_))) | ((with_reducible show wpAny _ _ (subscriptTail _ _ (Value.ref _) (Value.ref _)) _ _ _); first | (with_reducible (k_dflt (refine' slice4 ?zF ?zN ?zl ?zi ?z0 ?zp ?zq ?zr ?_ ?zs ?zt ?zz; (case zp => exact IsPart.int _ _); (case zq => exact IsPart.int _ _); (case zr => exact IsPart.int _ _); (case zF => k_asm); (case zN => k_asm); (case zl => kmk_list); (case zi => l_ints); (case z0 => omega); (case zs => with_unfolding_all rfl); (case zt => kmk_pure); (case zz => kmk_size)); intro D' ws' ms' h' F' N' l1 hI' hC'; (try k_lt l1))) | (k_dflt (refine' slice4 ?zF ?zN ?zl ?zi ?z0 ?zp ?zq ?zr ?_ ?zs ?zt ?zz; (case zp => exact IsPart.int _ _); (case zq => exact IsPart.int _ _); (case zr => exact IsPart.int _ _); (case zF => k_asm); (case zN => k_asm); (case zl => kmk_list); (case zi => l_ints); (case z0 => omega); (case zs => with_unfolding_all rfl); (case zt => kmk_pure); (case zz => kmk_size)); intro D' ws' ms' h' F' N' l1 hI' hC'; (try k_lt l1))) | (have hz9 : NoHalt := ⟨⟩; walk1; all_goals (try clear hz9))) | (k_unfold; (try dsimp only)) | (k_end; wrow_close) | walk1 | (dsimp only; walk1) | (leave1; walk_say "STEP leave1"; try dsimp only) | fail "no step"))
    unfold Halt
    (with_reducible rename Fr _ _ _ _ => FF)
    (with_reducible rename News _ _ _ _ => NN)
    (with_reducible rename IsRange _ _ _ _ _ _ _ _ => RR)
    refine planes_go (c := _) ⟨?iter, ?test, ?elt⟩ rfl (by rfl) (by rfl) (by rfl) (by decide) (fun _ _ => rfl) FF NN RR ?fin
    case iter =>
      intro u t I oI C oC D' ys m₂ h tk rest hu1 hu2 hoC hu F1 N1
      clear FF NN RR
      (repeat' (first | (unfold Hold; first | ((with_reducible show wpAny _ _ (call (Value.ref _) _ _) _ _ _); first | (with_reducible (refine halt ?_)) | (refine halt ?_)) | ((with_reducible show wpAny _ _ (pyIter _) (CompGo _ _ _ _ _ _ _ _ _ _ _) _ _); first | (with_reducible (refine halt ?_)) | (refine halt ?_)) | ((with_reducible show wpAny _ _ (eval (PySem.Expr.ListComp _ [⟨_, PySem.Expr.Subscript _ _ _, _, _⟩] _ _) _) _ _ _); first | (with_reducible (k_dflt (refine LCg.ListComp_U (F₀ := by k_asm) (by with_unfolding_all rfl) (by decide) (by rfl) (by decide) (by rfl) ?_))) | (k_dflt (refine LCg.ListComp_U (F₀ := by k_asm) (by with_unfolding_all rfl) (by decide) (by rfl) (by decide) (by rfl) ?_))) | ((with_reducible show wpAny _ _ (subscriptTail _ _ (Value.ref _) (Value.ref _)) _ _ _); first | (with_reducible (k_dflt (refine' slice4 ?zF ?zN ?zl ?zi ?z0 ?zp ?zq ?zr ?_ ?zs ?zt ?zz; (case zp => exact IsPart.int _ _); (case zq => exact IsPart.int _ _); (case zr => exact IsPart.int _ _); (case zF => k_asm); (case zN => k_asm); (case zl => kmk_list); (case zi => l_ints); (case z0 => omega); (case zs => with_unfolding_all rfl); (case zt => kmk_pure); (case zz => kmk_size)); intro D' ws' ms' h' F' N' l1 hI' hC'; (try k_lt l1))) | (k_dflt (refine' slice4 ?zF ?zN ?zl ?zi ?z0 ?zp ?zq ?zr ?_ ?zs ?zt ?zz; (case zp => exact IsPart.int _ _); (case zq => exact IsPart.int _ _); (case zr => exact IsPart.int _ _); (case zF => k_asm); (case zN => k_asm); (case zl => kmk_list); (case zi => l_ints); (case z0 => omega); (case zs => with_unfolding_all rfl); (case zt => kmk_pure); (case zz => kmk_size)); intro D' ws' ms' h' F' N' l1 hI' hC'; (try k_lt l1))) | (have hz9 : NoHalt := ⟨⟩; walk1; all_goals (try clear hz9))) | (k_unfold; (try dsimp only)) | (k_end; wrow_close) | walk1 | (dsimp only; walk1) | (leave1; walk_say "STEP leave1"; try dsimp only) | fail "no step"))
      (with_reducible rename Fr _ _ _ _ => FF)
      (with_reducible rename News _ _ _ _ => NN)
      (with_reducible rename IsRange _ _ _ _ _ _ _ _ => RR)
      exact ⟨_, _, _, _, _, _, rfl, rfl, FF, NN, RR⟩
    case test =>
      intro u v t t' J oJ I oI C oC D' ys m₂ h tk rest hu1 hu2 hoC hu hv F1 N1
      clear FF NN RR
      (repeat' (first | (unfold Hold; first | ((with_reducible show wpAny _ _ (call (Value.ref _) _ _) _ _ _); first | (with_reducible (refine halt ?_)) | (refine halt ?_)) | ((with_reducible show wpAny _ _ (pyIter _) (CompGo _ _ _ _ _ _ _ _ _ _ _) _ _); first | (with_reducible (refine halt ?_)) | (refine halt ?_)) | ((with_reducible show wpAny _ _ (eval (PySem.Expr.ListComp _ [⟨_, PySem.Expr.Subscript _ _ _, _, _⟩] _ _) _) _ _ _); first | (with_reducible (k_dflt (refine LCg.ListComp_U (F₀ := by k_asm) (by with_unfolding_all rfl) (by decide) (by rfl) (by decide) (by rfl) ?_))) | (k_dflt (refine LCg.ListComp_U (F₀ := by k_asm) (by with_unfolding_all rfl) (by decide) (by rfl) (by decide) (by rfl) ?_))) | ((with_reducible show wpAny _ _ (subscriptTail _ _ (Value.ref _) (Value.ref _)) _ _ _); first | (with_reducible (k_dflt (refine' slice4 ?zF ?zN ?zl ?zi ?z0 ?zp ?zq ?zr ?_ ?zs ?zt ?zz; (case zp => exact IsPart.int _ _); (case zq => exact IsPart.int _ _); (case zr => exact IsPart.int _ _); (case zF => k_asm); (case zN => k_asm); (case zl => kmk_list); (case zi => l_ints); (case z0 => omega); (case zs => with_unfolding_all rfl); (case zt => kmk_pure); (case zz => kmk_size)); intro D' ws' ms' h' F' N' l1 hI' hC'; (try k_lt l1))) | (k_dflt (refine' slice4 ?zF ?zN ?zl ?zi ?z0 ?zp ?zq ?zr ?_ ?zs ?zt ?zz; (case zp => exact IsPart.int _ _); (case zq => exact IsPart.int _ _); (case zr => exact IsPart.int _ _); (case zF => k_asm); (case zN => k_asm); (case zl => kmk_list); (case zi => l_ints); (case z0 => omega); (case zs => with_unfolding_all rfl); (case zt => kmk_pure); (case zz => kmk_size)); intro D' ws' ms' h' F' N' l1 hI' hC'; (try k_lt l1))) | (have hz9 : NoHalt := ⟨⟩; walk1; all_goals (try clear hz9))) | (k_unfold; (try dsimp only)) | (k_end; wrow_close) | walk1 | (dsimp only; walk1) | (leave1; walk_say "STEP leave1"; try dsimp only) | fail "no step"))
      refine ⟨_, _, rfl, by k_asm, by k_asm, ?_⟩
      rw [bx u v hu1 hu2]
      exact decide_eq_decide.mpr (by omega)
    case elt =>
      intro u v t t' J oJ I oI C oC D' ys m₂ h tk rest hu1 hu2 hoC hu hv F1 N1
      clear FF NN RR
      (repeat' (first | (unfold Hold; first | ((with_reducible show wpAny _ _ (call (Value.ref _) _ _) _ _ _); first | (with_reducible (refine halt ?_)) | (refine halt ?_)) | ((with_reducible show wpAny _ _ (pyIter _) (CompGo _ _ _ _ _ _ _ _ _ _ _) _ _); first | (with_reducible (refine halt ?_)) | (refine halt ?_)) | ((with_reducible show wpAny _ _ (eval (PySem.Expr.ListComp _ [⟨_, PySem.Expr.Subscript _ _ _, _, _⟩] _ _) _) _ _ _); first | (with_reducible (k_dflt (refine LCg.ListComp_U (F₀ := by k_asm) (by with_unfolding_all rfl) (by decide) (by rfl) (by decide) (by rfl) ?_))) | (k_dflt (refine LCg.ListComp_U (F₀ := by k_asm) (by with_unfolding_all rfl) (by decide) (by rfl) (by decide) (by rfl) ?_))) | ((with_reducible show wpAny _ _ (subscriptTail _ _ (Value.ref _) (Value.ref _)) _ _ _); first | (with_reducible (k_dflt (refine' slice4 ?zF ?zN ?zl ?zi ?z0 ?zp ?zq ?zr ?_ ?zs ?zt ?zz; (case zp => exact IsPart.int _ _); (case zq => exact IsPart.int _ _); (case zr => exact IsPart.int _ _); (case zF => k_asm); (case zN => k_asm); (case zl => kmk_list); (case zi => l_ints); (case z0 => omega); (case zs => with_unfolding_all rfl); (case zt => kmk_pure); (case zz => kmk_size)); intro D' ws' ms' h' F' N' l1 hI' hC'; (try k_lt l1))) | (k_dflt (refine' slice4 ?zF ?zN ?zl ?zi ?z0 ?zp ?zq ?zr ?_ ?zs ?zt ?zz; (case zp => exact IsPart.int _ _); (case zq => exact IsPart.int _ _); (case zr => exact IsPart.int _ _); (case zF => k_asm); (case zN => k_asm); (case zl => kmk_list); (case zi => l_ints); (case z0 => omega); (case zs => with_unfolding_all rfl); (case zt => kmk_pure); (case zz => kmk_size)); intro D' ws' ms' h' F' N' l1 hI' hC'; (try k_lt l1))) | (have hz9 : NoHalt := ⟨⟩; walk1; all_goals (try clear hz9))) | (k_unfold; (try dsimp only)) | (k_end; wrow_close) | walk1 | (dsimp only; walk1) | (leave1; walk_say "STEP leave1"; try dsimp only) | fail "no step"))
      (with_reducible rename Fr _ _ _ _ => FF)
      (with_reducible rename News _ _ _ _ => NN)
      rw [bx u v hu1 hu2] at NN
      exact ⟨_, _, _, _, _, _, _, _, rfl, rfl, FF, NN, allLt_mem (l := _ :: _ :: _ :: _ :: _) (by assumption)⟩
    case fin =>
      intro s₂ D2 ys pl tk2 hs₂ hD2 hPl hpl
      obtain ⟨h', tk', rfl⟩ := hs₂
      rw [uvsTo_15] at hPl
      intro h tk9 hle F1 N1
      clear FF NN RR
      have N2 : News _ _ h ((D2, LCg.lst ys) :: (X, _) :: (T, _) :: (_, _) :: (_, _) :: pl) := fun p hp => N1 p (by
        refine mem_elim hp ?_ fun hp => ?_
        · exact .head _
        refine .tail _ ?_
        refine mem_elim hp ?_ fun hp => ?_
        · exact List.mem_append_right _ (.head _)
        refine mem_elim hp ?_ fun hp => ?_
        · exact List.mem_append_right _ (.tail _ (.head _))
        refine mem_elim hp ?_ fun hp => ?_
        · exact List.mem_append_right _ (.tail _ (.tail _ (.head _)))
        refine mem_elim hp ?_ fun hp => ?_
        · exact List.mem_append_right _ (.tail _ (.tail _ (.tail _ (.head _))))
        · exact List.mem_append_left _ hp)
      clear N1
      have hXD : X < D2 := hD2 _ (.head _)
      (repeat' (first | (unfold Hold; first | ((with_reducible show wpAny _ _ (call (Value.ref _) _ _) _ _ _); first | (with_reducible (refine halt ?_)) | (refine halt ?_)) | ((with_reducible show wpAny _ _ (pyIter _) (CompGo _ _ _ _ _ _ _ _ _ _ _) _ _); first | (with_reducible (refine halt ?_)) | (refine halt ?_)) | ((with_reducible show wpAny _ _ (eval (PySem.Expr.ListComp _ [⟨_, PySem.Expr.Subscript _ _ _, _, _⟩] _ _) _) _ _ _); first | (with_reducible (k_dflt (refine LCg.ListComp_U (F₀ := by k_asm) (by with_unfolding_all rfl) (by decide) (by rfl) (by decide) (by rfl) ?_))) | (k_dflt (refine LCg.ListComp_U (F₀ := by k_asm) (by with_unfolding_all rfl) (by decide) (by rfl) (by decide) (by rfl) ?_))) | ((with_reducible show wpAny _ _ (subscriptTail _ _ (Value.ref _) (Value.ref _)) _ _ _); first | (with_reducible (k_dflt (refine' slice4 ?zF ?zN ?zl ?zi ?z0 ?zp ?zq ?zr ?_ ?zs ?zt ?zz; (case zp => exact IsPart.int _ _); (case zq => exact IsPart.int _ _); (case zr => exact IsPart.int _ _); (case zF => k_asm); (case zN => k_asm); (case zl => kmk_list); (case zi => l_ints); (case z0 => omega); (case zs => with_unfolding_all rfl); (case zt => kmk_pure); (case zz => kmk_size)); intro D' ws' ms' h' F' N' l1 hI' hC'; (try k_lt l1))) | (k_dflt (refine' slice4 ?zF ?zN ?zl ?zi ?z0 ?zp ?zq ?zr ?_ ?zs ?zt ?zz; (case zp => exact IsPart.int _ _); (case zq => exact IsPart.int _ _); (case zr => exact IsPart.int _ _); (case zF => k_asm); (case zN => k_asm); (case zl => kmk_list); (case zi => l_ints); (case z0 => omega); (case zs => with_unfolding_all rfl); (case zt => kmk_pure); (case zz => kmk_size)); intro D' ws' ms' h' F' N' l1 hI' hC'; (try k_lt l1))) | (have hz9 : NoHalt := ⟨⟩; walk1; all_goals (try clear hz9))) | (k_unfold; (try dsimp only)) | (k_end; wrow_close) | walk1 | (dsimp only; walk1) | (leave1; walk_say "STEP leave1"; try dsimp only) | fail "no step"))
      unfold Halt
      (with_reducible rename Fr _ _ _ _ => FF)
      (with_reducible rename News _ _ _ _ => NN)
      refine Assign_comp FF (by rfl) (by with_unfolding_all rfl) (by with_unfolding_all rfl) (by decide) (by rfl) (by decide) (by rfl) (by rfl) ?_
      (repeat' (first | (unfold Hold; first | ((with_reducible show wpAny _ _ (call (Value.ref _) _ _) _ _ _); first | (with_reducible (refine halt ?_)) | (refine halt ?_)) | ((with_reducible show wpAny _ _ (pyIter _) (CompGo _ _ _ _ _ _ _ _ _ _ _) _ _); first | (with_reducible (refine halt ?_)) | (refine halt ?_)) | ((with_reducible show wpAny _ _ (eval (PySem.Expr.ListComp _ [⟨_, PySem.Expr.Subscript _ _ _, _, _⟩] _ _) _) _ _ _); first | (with_reducible (k_dflt (refine LCg.ListComp_U (F₀ := by k_asm) (by with_unfolding_all rfl) (by decide) (by rfl) (by decide) (by rfl) ?_))) | (k_dflt (refine LCg.ListComp_U (F₀ := by k_asm) (by with_unfolding_all rfl) (by decide) (by rfl) (by decide) (by rfl) ?_))) | ((with_reducible show wpAny _ _ (subscriptTail _ _ (Value.ref _) (Value.ref _)) _ _ _); first | (with_reducible (k_dflt (refine' slice4 ?zF ?zN ?zl ?zi ?z0 ?zp ?zq ?zr ?_ ?zs ?zt ?zz; (case zp => exact IsPart.int _ _); (case zq => exact IsPart.int _ _); (case zr => exact IsPart.int _ _); (case zF => k_asm); (case zN => k_asm); (case zl => kmk_list); (case zi => l_ints); (case z0 => omega); (case zs => with_unfolding_all rfl); (case zt => kmk_pure); (case zz => kmk_size)); intro D' ws' ms' h' F' N' l1 hI' hC'; (try k_lt l1))) | (k_dflt (refine' slice4 ?zF ?zN ?zl ?zi ?z0 ?zp ?zq ?zr ?_ ?zs ?zt ?zz; (case zp => exact IsPart.int _ _); (case zq => exact IsPart.int _ _); (case zr => exact IsPart.int _ _); (case zF => k_asm); (case zN => k_asm); (case zl => kmk_list); (case zi => l_ints); (case z0 => omega); (case zs => with_unfolding_all rfl); (case zt => kmk_pure); (case zz => kmk_size)); intro D' ws' ms' h' F' N' l1 hI' hC'; (try k_lt l1))) | (have hz9 : NoHalt := ⟨⟩; walk1; all_goals (try clear hz9))) | (k_unfold; (try dsimp only)) | (k_end; wrow_close) | walk1 | (dsimp only; walk1) | (leave1; walk_say "STEP leave1"; try dsimp only) | fail "no step"))
      unfold Halt
      (with_reducible rename Fr _ _ _ _ => FF)
      (with_reducible rename News _ _ _ _ => NN)
      generalize hns : imgs (mOf (a0.fmod 16) (a1.fmod 16) (a2.fmod 16) (a3.fmod 16)) 4 = ns at hX
      have hnl : ns.length = 16 := by rw [← hns]; exact imgs_len4 _
      refine list_go (its := ys.toArray) (k := ys.length) (fun i y tk => ∃ tc, y = .int (((insL ns).getD i 0 : Nat) : Int) tc ∧ 0 < tc ∧ tc < tk) ?vm rfl FF NN (.head _) ?sz (by rfl) (by rfl) ?st3 ?fin3
      case vm => exact fun i y a b hab ⟨tc, e, h1, h2⟩ => ⟨tc, e, h1, Nat.lt_of_lt_of_le h2 hab⟩
      case sz => rw [List.size_toArray, hPl.1, uvs_len]; decide
      case st3 =>
        intro i v I oI C oC D3 ys3 m₂ h tk E' hv hoC hm F1 N1 hlts hlt2
        clear FF NN
        have hi : i < uvs.length := by
          have := (Array.getElem?_eq_some_iff.mp hv).1
          rw [List.size_toArray, hPl.1] at this; exact this
        obtain ⟨⟨u, v2⟩, huv⟩ : ∃ p, uvs[i]? = some p := ⟨_, List.getElem?_eq_getElem hi⟩
        obtain ⟨P, s0, s1, s2, s3, nP, eP, hDP, hmP⟩ := hPl.2 i u v2 huv
        have eP' : v = .ref P := by
          have e0 : ys.toArray[i]? = ys[i]? := by simp
          rw [e0, eP] at hv; exact (Option.some.inj hv).symm
        subst eP'
        have hsm := uvs_small (u, v2) (List.mem_of_getElem? huv)
        (repeat' (first | (unfold Hold; first | ((with_reducible show wpAny _ _ (call (Value.ref _) _ _) _ _ _); first | (with_reducible (refine halt ?_)) | (refine halt ?_)) | ((with_reducible show wpAny _ _ (pyIter _) (CompGo _ _ _ _ _ _ _ _ _ _ _) _ _); first | (with_reducible (refine halt ?_)) | (refine halt ?_)) | ((with_reducible show wpAny _ _ (eval (PySem.Expr.ListComp _ [⟨_, PySem.Expr.Subscript _ _ _, _, _⟩] _ _) _) _ _ _); first | (with_reducible (k_dflt (refine LCg.ListComp_U (F₀ := by k_asm) (by with_unfolding_all rfl) (by decide) (by rfl) (by decide) (by rfl) ?_))) | (k_dflt (refine LCg.ListComp_U (F₀ := by k_asm) (by with_unfolding_all rfl) (by decide) (by rfl) (by decide) (by rfl) ?_))) | ((with_reducible show wpAny _ _ (subscriptTail _ _ (Value.ref _) (Value.ref _)) _ _ _); first | (with_reducible (k_dflt (refine' slice4 ?zF ?zN ?zl ?zi ?z0 ?zp ?zq ?zr ?_ ?zs ?zt ?zz; (case zp => exact IsPart.int _ _); (case zq => exact IsPart.int _ _); (case zr => exact IsPart.int _ _); (case zF => k_asm); (case zN => k_asm); (case zl => kmk_list); (case zi => l_ints); (case z0 => omega); (case zs => with_unfolding_all rfl); (case zt => kmk_pure); (case zz => kmk_size)); intro D' ws' ms' h' F' N' l1 hI' hC'; (try k_lt l1))) | (k_dflt (refine' slice4 ?zF ?zN ?zl ?zi ?z0 ?zp ?zq ?zr ?_ ?zs ?zt ?zz; (case zp => exact IsPart.int _ _); (case zq => exact IsPart.int _ _); (case zr => exact IsPart.int _ _); (case zF => k_asm); (case zN => k_asm); (case zl => kmk_list); (case zi => l_ints); (case z0 => omega); (case zs => with_unfolding_all rfl); (case zt => kmk_pure); (case zz => kmk_size)); intro D' ws' ms' h' F' N' l1 hI' hC'; (try k_lt l1))) | (have hz9 : NoHalt := ⟨⟩; walk1; all_goals (try clear hz9))) | (k_unfold; (try dsimp only)) | (k_end; wrow_close) | walk1 | (dsimp only; walk1) | (leave1; walk_say "STEP leave1"; try dsimp only) | fail "no step"))
        unfold Halt
        (with_reducible rename Fr _ _ _ _ => FF)
        (with_reducible rename News _ _ _ _ => NN)
        refine' SpecK.useR (ps := [(P, planeO u v2 s0 s1 s2 s3 nP), (X, listOf lX.toArray kX)]) (Ret := fun tk r => ∃ tc, r = .int (insideOf ns u v2 ((u ^^^ v2 : Nat) : Int) : Nat) tc ∧ 0 < tc ∧ tc < tk) (law_inside_spec _ X P lX ns kX nP u v2 ((u ^^^ v2 : Nat) : Int) s0 s1 s2 s3 hX hnl ?hb9 (Nat.lt_trans hXD hDP)) ?k1 FF ?k3 NN ?k5 ?kK ?kd ?ku ?h1 ?_
        case hb9 => dsimp only at hsm; first | exact ⟨nat16 hsm.1, nat16 hsm.2.1, nat16 hsm.2.2⟩ | omega
        case k1 => k_asm
        case k3 => k_asm
        case k5 => k_asm
        case kK => exact rfl
        case kd => exact Nat.le_of_ble_eq_true rfl
        case ku => exact Nat.le_of_ble_eq_true rfl
        case h1 =>
          intro p hp
          refine mem_elim hp ?_ fun hp => ?_
          · exact .tail _ (.tail _ (.tail _ (.tail _ (.tail _ (.tail _ (.tail _ (.tail _ hmP)))))))
          · rw [List.mem_singleton.mp hp]
            exact .tail _ (.tail _ (.tail _ (.tail _ (.head _))))
        intro r9 h9 tk9 F9 N9 _ R9
        obtain ⟨tc, rfl, p1, p2⟩ := R9
        exact ⟨_, _, rfl, F9, N9, tc, by rw [insL_at _ huv], p1, p2⟩
      case fin3 =>
        intro s₃ D3 ys3 tk3 hs₃ hD3 hyl hV
        obtain ⟨h', tk', rfl⟩ := hs₃
        intro h tk9 hle F1 N1
        clear FF NN
        have N2 : News _ _ h [(D3, LCg.lst ys3), (X, _), (T, _), _, _] := fun p hp => N1 p (by
          refine mem_elim hp ?_ fun hp => ?_
          · exact .head _
          refine .tail _ (.tail _ ?_)
          refine mem_elim hp ?_ fun hp => ?_
          · exact .head _
          refine .tail _ ?_
          refine mem_elim hp ?_ fun hp => ?_
          · exact .head _
          refine .tail _ ?_
          refine mem_elim hp ?_ fun hp => ?_
          · exact .head _
          · rw [List.mem_singleton.mp hp]; exact .tail _ (.head _))
        clear N1
        (repeat' (first | (unfold Hold; first | ((with_reducible show wpAny _ _ (call (Value.ref _) _ _) _ _ _); first | (with_reducible (refine halt ?_)) | (refine halt ?_)) | ((with_reducible show wpAny _ _ (pyIter _) (CompGo _ _ _ _ _ _ _ _ _ _ _) _ _); first | (with_reducible (refine halt ?_)) | (refine halt ?_)) | ((with_reducible show wpAny _ _ (eval (PySem.Expr.ListComp _ [⟨_, PySem.Expr.Subscript _ _ _, _, _⟩] _ _) _) _ _ _); first | (with_reducible (k_dflt (refine LCg.ListComp_U (F₀ := by k_asm) (by with_unfolding_all rfl) (by decide) (by rfl) (by decide) (by rfl) ?_))) | (k_dflt (refine LCg.ListComp_U (F₀ := by k_asm) (by with_unfolding_all rfl) (by decide) (by rfl) (by decide) (by rfl) ?_))) | ((with_reducible show wpAny _ _ (subscriptTail _ _ (Value.ref _) (Value.ref _)) _ _ _); first | (with_reducible (k_dflt (refine' slice4 ?zF ?zN ?zl ?zi ?z0 ?zp ?zq ?zr ?_ ?zs ?zt ?zz; (case zp => exact IsPart.int _ _); (case zq => exact IsPart.int _ _); (case zr => exact IsPart.int _ _); (case zF => k_asm); (case zN => k_asm); (case zl => kmk_list); (case zi => l_ints); (case z0 => omega); (case zs => with_unfolding_all rfl); (case zt => kmk_pure); (case zz => kmk_size)); intro D' ws' ms' h' F' N' l1 hI' hC'; (try k_lt l1))) | (k_dflt (refine' slice4 ?zF ?zN ?zl ?zi ?z0 ?zp ?zq ?zr ?_ ?zs ?zt ?zz; (case zp => exact IsPart.int _ _); (case zq => exact IsPart.int _ _); (case zr => exact IsPart.int _ _); (case zF => k_asm); (case zN => k_asm); (case zl => kmk_list); (case zi => l_ints); (case z0 => omega); (case zs => with_unfolding_all rfl); (case zt => kmk_pure); (case zz => kmk_size)); intro D' ws' ms' h' F' N' l1 hI' hC'; (try k_lt l1))) | (have hz9 : NoHalt := ⟨⟩; walk1; all_goals (try clear hz9))) | (k_unfold; (try dsimp only)) | (k_end; wrow_close) | walk1 | (dsimp only; walk1) | (leave1; walk_say "STEP leave1"; try dsimp only) | fail "no step"))
        unfold Halt
        (with_reducible rename Fr _ _ _ _ => FF)
        (with_reducible rename News _ _ _ _ => NN)
        refine' SpecK.useR (ps := [(X, listOf lX.toArray kX)]) (Ret := fun _ r => ∃ t, r = .int (linesOf ns : Nat) t) (law_lines_spec _ X lX ns kX hX hnl) ?k1 FF ?k3 NN ?k5 ?kK ?kd ?ku ?h1 ?_
        case k1 => k_asm
        case k3 => k_asm
        case k5 => k_asm
        case kK => exact rfl
        case kd => exact Nat.le_of_ble_eq_true rfl
        case ku => exact Nat.le_of_ble_eq_true rfl
        case h1 => exact fun p hp => by rw [List.mem_singleton.mp hp]; exact .tail _ (.head _)
        intro r9 h9 tk4 F9 N9 hle4 R9
        obtain ⟨tl, rfl⟩ := R9
        clear FF NN
        (try dsimp only); (try k_fold)
        have hlen3 : ys3.length = (insL ns).length := by rw [hyl, List.size_toArray, hPl.1, uvs_len, insL_len]
        have hV4 : ∀ tb : Nat, tk9 ≤ tb → ∀ (i : Nat) y, ys3[i]? = some y → ∃ tc, y = .int (((insL ns).getD i 0 : Nat) : Int) tc ∧ 0 < tc ∧ tc < tb := fun tb htb i y e => by
          obtain ⟨tc, h1, h2, h3⟩ := hV i y e
          exact ⟨tc, h1, h2, Nat.lt_of_lt_of_le h3 (Nat.le_trans hle htb)⟩
        replace hle4 : tk9 ≤ tk4 := hle4
        (repeat' (first | (unfold Hold; first | ((with_reducible show wpAny _ _ (call (Value.ref _) _ _) _ _ _); first | (with_reducible (refine halt ?_)) | (refine halt ?_)) | ((with_reducible show wpAny _ _ (pyIter _) (CompGo _ _ _ _ _ _ _ _ _ _ _) _ _); first | (with_reducible (refine halt ?_)) | (refine halt ?_)) | ((with_reducible show wpAny _ _ (eval (PySem.Expr.ListComp _ [⟨_, PySem.Expr.Subscript _ _ _, _, _⟩] _ _) _) _ _ _); first | (with_reducible (k_dflt (refine LCg.ListComp_U (F₀ := by k_asm) (by with_unfolding_all rfl) (by decide) (by rfl) (by decide) (by rfl) ?_))) | (k_dflt (refine LCg.ListComp_U (F₀ := by k_asm) (by with_unfolding_all rfl) (by decide) (by rfl) (by decide) (by rfl) ?_))) | ((with_reducible show wpAny _ _ (subscriptTail _ _ (Value.ref _) (Value.ref _)) _ _ _); first | (with_reducible (k_dflt (refine' slice4 ?zF ?zN ?zl ?zi ?z0 ?zp ?zq ?zr ?_ ?zs ?zt ?zz; (case zp => exact IsPart.int _ _); (case zq => exact IsPart.int _ _); (case zr => exact IsPart.int _ _); (case zF => k_asm); (case zN => k_asm); (case zl => kmk_list); (case zi => l_ints); (case z0 => omega); (case zs => with_unfolding_all rfl); (case zt => kmk_pure); (case zz => kmk_size)); intro D' ws' ms' h' F' N' l1 hI' hC'; (try k_lt l1))) | (k_dflt (refine' slice4 ?zF ?zN ?zl ?zi ?z0 ?zp ?zq ?zr ?_ ?zs ?zt ?zz; (case zp => exact IsPart.int _ _); (case zq => exact IsPart.int _ _); (case zr => exact IsPart.int _ _); (case zF => k_asm); (case zN => k_asm); (case zl => kmk_list); (case zi => l_ints); (case z0 => omega); (case zs => with_unfolding_all rfl); (case zt => kmk_pure); (case zz => kmk_size)); intro D' ws' ms' h' F' N' l1 hI' hC'; (try k_lt l1))) | (have hz9 : NoHalt := ⟨⟩; walk1; all_goals (try clear hz9))) | (k_unfold; (try dsimp only)) | (k_end; wrow_close) | walk1 | (dsimp only; walk1) | (leave1; walk_say "STEP leave1"; try dsimp only) | fail "no step"))
        unfold Halt
        (with_reducible rename Fr _ _ _ _ => FF)
        (with_reducible rename News _ _ _ _ => NN)
        refine' SpecK.useR (ps := [(D3, LCg.lst ys3)]) (Ret := fun _ r => ∃ tc, r = .int (((insL ns).countP (· == 3) : Nat) : Int) tc) (count_vals_spec _ D3 ys3 (insL ns) 3 _ hlen3 ?z1 ?z2 (insL_le ns) (hV4 _ hle4)) ?k1 FF ?k3 NN ?k5 ?kK ?kd ?ku ?h1 ?_
        case z1 => rw [insL_len]; decide
        case z2 => rw [insL_len]; decide
        case k1 => k_asm
        case k3 => k_asm
        case k5 => k_asm
        case kK => exact rfl
        case kd => exact Nat.le_of_ble_eq_true rfl
        case ku => exact Nat.le_of_ble_eq_true rfl
        case h1 => exact fun p hp => by rw [List.mem_singleton.mp hp]; exact .head _
        intro r9 h9 tk5 F9 N9 hle5 R9
        obtain ⟨tw, rfl⟩ := R9
        clear FF NN
        (try dsimp only); (try k_fold)
        have tm : TokMark := ⟨⟩
        (repeat' (first | (unfold Hold; first | ((with_reducible show wpAny _ _ (call (Value.ref _) _ _) _ _ _); first | (with_reducible (refine halt ?_)) | (refine halt ?_)) | ((with_reducible show wpAny _ _ (pyIter _) (CompGo _ _ _ _ _ _ _ _ _ _ _) _ _); first | (with_reducible (refine halt ?_)) | (refine halt ?_)) | ((with_reducible show wpAny _ _ (eval (PySem.Expr.ListComp _ [⟨_, PySem.Expr.Subscript _ _ _, _, _⟩] _ _) _) _ _ _); first | (with_reducible (k_dflt (refine LCg.ListComp_U (F₀ := by k_asm) (by with_unfolding_all rfl) (by decide) (by rfl) (by decide) (by rfl) ?_))) | (k_dflt (refine LCg.ListComp_U (F₀ := by k_asm) (by with_unfolding_all rfl) (by decide) (by rfl) (by decide) (by rfl) ?_))) | ((with_reducible show wpAny _ _ (subscriptTail _ _ (Value.ref _) (Value.ref _)) _ _ _); first | (with_reducible (k_dflt (refine' slice4 ?zF ?zN ?zl ?zi ?z0 ?zp ?zq ?zr ?_ ?zs ?zt ?zz; (case zp => exact IsPart.int _ _); (case zq => exact IsPart.int _ _); (case zr => exact IsPart.int _ _); (case zF => k_asm); (case zN => k_asm); (case zl => kmk_list); (case zi => l_ints); (case z0 => omega); (case zs => with_unfolding_all rfl); (case zt => kmk_pure); (case zz => kmk_size)); intro D' ws' ms' h' F' N' l1 hI' hC'; (try k_lt l1))) | (k_dflt (refine' slice4 ?zF ?zN ?zl ?zi ?z0 ?zp ?zq ?zr ?_ ?zs ?zt ?zz; (case zp => exact IsPart.int _ _); (case zq => exact IsPart.int _ _); (case zr => exact IsPart.int _ _); (case zF => k_asm); (case zN => k_asm); (case zl => kmk_list); (case zi => l_ints); (case z0 => omega); (case zs => with_unfolding_all rfl); (case zt => kmk_pure); (case zz => kmk_size)); intro D' ws' ms' h' F' N' l1 hI' hC'; (try k_lt l1))) | (have hz9 : NoHalt := ⟨⟩; walk1; all_goals (try clear hz9))) | (k_unfold; (try dsimp only)) | (k_end; wrow_close) | walk1 | (dsimp only; walk1) | (leave1; walk_say "STEP leave1"; try dsimp only) | fail "no step"))
        unfold Halt
        refine tok_cut tk5 (by dsimp only; exact Nat.le_add_right _ 2) ?_
        intro tkW hleW
        dsimp only
        (repeat' (first | (unfold Hold; first | ((with_reducible show wpAny _ _ (call (Value.ref _) _ _) _ _ _); first | (with_reducible (refine halt ?_)) | (refine halt ?_)) | ((with_reducible show wpAny _ _ (pyIter _) (CompGo _ _ _ _ _ _ _ _ _ _ _) _ _); first | (with_reducible (refine halt ?_)) | (refine halt ?_)) | ((with_reducible show wpAny _ _ (eval (PySem.Expr.ListComp _ [⟨_, PySem.Expr.Subscript _ _ _, _, _⟩] _ _) _) _ _ _); first | (with_reducible (k_dflt (refine LCg.ListComp_U (F₀ := by k_asm) (by with_unfolding_all rfl) (by decide) (by rfl) (by decide) (by rfl) ?_))) | (k_dflt (refine LCg.ListComp_U (F₀ := by k_asm) (by with_unfolding_all rfl) (by decide) (by rfl) (by decide) (by rfl) ?_))) | ((with_reducible show wpAny _ _ (subscriptTail _ _ (Value.ref _) (Value.ref _)) _ _ _); first | (with_reducible (k_dflt (refine' slice4 ?zF ?zN ?zl ?zi ?z0 ?zp ?zq ?zr ?_ ?zs ?zt ?zz; (case zp => exact IsPart.int _ _); (case zq => exact IsPart.int _ _); (case zr => exact IsPart.int _ _); (case zF => k_asm); (case zN => k_asm); (case zl => kmk_list); (case zi => l_ints); (case z0 => omega); (case zs => with_unfolding_all rfl); (case zt => kmk_pure); (case zz => kmk_size)); intro D' ws' ms' h' F' N' l1 hI' hC'; (try k_lt l1))) | (k_dflt (refine' slice4 ?zF ?zN ?zl ?zi ?z0 ?zp ?zq ?zr ?_ ?zs ?zt ?zz; (case zp => exact IsPart.int _ _); (case zq => exact IsPart.int _ _); (case zr => exact IsPart.int _ _); (case zF => k_asm); (case zN => k_asm); (case zl => kmk_list); (case zi => l_ints); (case z0 => omega); (case zs => with_unfolding_all rfl); (case zt => kmk_pure); (case zz => kmk_size)); intro D' ws' ms' h' F' N' l1 hI' hC'; (try k_lt l1))) | (have hz9 : NoHalt := ⟨⟩; walk1; all_goals (try clear hz9))) | (k_unfold; (try dsimp only)) | (k_end; wrow_close) | walk1 | (dsimp only; walk1) | (leave1; walk_say "STEP leave1"; try dsimp only) | fail "no step"))
        unfold Halt
        (with_reducible rename Fr _ _ _ _ => FF)
        (with_reducible rename News _ _ _ _ => NN)
        refine' SpecK.useA (ps := [(T, _)]) (Ret := fun _ r new => ∃ Y t0 t1 t2 t3 k', r = .ref Y ∧ new = [(Y, listOf #[.int (turnedOf [a0.fmod 16, a1.fmod 16, a2.fmod 16, a3.fmod 16] 0) t0, .int (turnedOf [a0.fmod 16, a1.fmod 16, a2.fmod 16, a3.fmod 16] 1) t1, .int (turnedOf [a0.fmod 16, a1.fmod 16, a2.fmod 16, a3.fmod 16] 2) t2, .int (turnedOf [a0.fmod 16, a1.fmod 16, a2.fmod 16, a3.fmod 16] 3) t3] k')]) (law_turned_add _ T _ _ _ _ u0 u1 u2 u3 0) ?k1 FF ?k3 NN ?k5 ?kK ?kd ?ku ?h1 ?_
        case k1 => k_asm
        case k3 => k_asm
        case k5 => k_asm
        case kK => exact rfl
        case kd => exact Nat.le_of_ble_eq_true rfl
        case ku => exact Nat.le_of_ble_eq_true rfl
        case h1 => exact fun p hp => by rw [List.mem_singleton.mp hp]; exact .tail _ (.tail _ (.tail _ (.head _)))
        intro r9 h9 tk6 new F9 N9 hle6 R9
        obtain ⟨Y, y0, y1, y2, y3, kY, rfl, rfl⟩ := R9
        clear FF NN
        simp only [List.nil_append, List.cons_append] at N9
        (try dsimp only); (try k_fold)
        (repeat' (first | (unfold Hold; first | ((with_reducible show wpAny _ _ (call (Value.ref _) _ _) _ _ _); first | (with_reducible (refine halt ?_)) | (refine halt ?_)) | ((with_reducible show wpAny _ _ (pyIter _) (CompGo _ _ _ _ _ _ _ _ _ _ _) _ _); first | (with_reducible (refine halt ?_)) | (refine halt ?_)) | ((with_reducible show wpAny _ _ (eval (PySem.Expr.ListComp _ [⟨_, PySem.Expr.Subscript _ _ _, _, _⟩] _ _) _) _ _ _); first | (with_reducible (k_dflt (refine LCg.ListComp_U (F₀ := by k_asm) (by with_unfolding_all rfl) (by decide) (by rfl) (by decide) (by rfl) ?_))) | (k_dflt (refine LCg.ListComp_U (F₀ := by k_asm) (by with_unfolding_all rfl) (by decide) (by rfl) (by decide) (by rfl) ?_))) | ((with_reducible show wpAny _ _ (subscriptTail _ _ (Value.ref _) (Value.ref _)) _ _ _); first | (with_reducible (k_dflt (refine' slice4 ?zF ?zN ?zl ?zi ?z0 ?zp ?zq ?zr ?_ ?zs ?zt ?zz; (case zp => exact IsPart.int _ _); (case zq => exact IsPart.int _ _); (case zr => exact IsPart.int _ _); (case zF => k_asm); (case zN => k_asm); (case zl => kmk_list); (case zi => l_ints); (case z0 => omega); (case zs => with_unfolding_all rfl); (case zt => kmk_pure); (case zz => kmk_size)); intro D' ws' ms' h' F' N' l1 hI' hC'; (try k_lt l1))) | (k_dflt (refine' slice4 ?zF ?zN ?zl ?zi ?z0 ?zp ?zq ?zr ?_ ?zs ?zt ?zz; (case zp => exact IsPart.int _ _); (case zq => exact IsPart.int _ _); (case zr => exact IsPart.int _ _); (case zF => k_asm); (case zN => k_asm); (case zl => kmk_list); (case zi => l_ints); (case z0 => omega); (case zs => with_unfolding_all rfl); (case zt => kmk_pure); (case zz => kmk_size)); intro D' ws' ms' h' F' N' l1 hI' hC'; (try k_lt l1))) | (have hz9 : NoHalt := ⟨⟩; walk1; all_goals (try clear hz9))) | (k_unfold; (try dsimp only)) | (k_end; wrow_close) | walk1 | (dsimp only; walk1) | (leave1; walk_say "STEP leave1"; try dsimp only) | fail "no step"))
        unfold Halt
        (with_reducible rename Fr _ _ _ _ => FF)
        (with_reducible rename News _ _ _ _ => NN)
        refine' SpecK.useA (ps := [(Y, _)]) (Ret := fun _ r new => ∃ X l k, r = .ref X ∧ IntsAre l (imgs (mOf (turnedOf [a0.fmod 16, a1.fmod 16, a2.fmod 16, a3.fmod 16] 0) (turnedOf [a0.fmod 16, a1.fmod 16, a2.fmod 16, a3.fmod 16] 1) (turnedOf [a0.fmod 16, a1.fmod 16, a2.fmod 16, a3.fmod 16] 2) (turnedOf [a0.fmod 16, a1.fmod 16, a2.fmod 16, a3.fmod 16] 3)) 4) ∧ new = [(X, listOf l.toArray k)]) (law_images_add _ Y _ _ _ _ y0 y1 y2 y3 kY) ?k1 FF ?k3 NN ?k5 ?kK ?kd ?ku ?h1 ?_
        case k1 => k_asm
        case k3 => k_asm
        case k5 => k_asm
        case kK => exact rfl
        case kd => exact Nat.le_of_ble_eq_true rfl
        case ku => exact Nat.le_of_ble_eq_true rfl
        case h1 => exact fun p hp => by rw [List.mem_singleton.mp hp]; exact .head _
        intro r9 h9 tk7 new F9 N9 hle7 R9
        obtain ⟨Z, lZ, kZ, rfl, hZ, rfl⟩ := R9
        clear FF NN
        simp only [List.nil_append, List.cons_append] at N9
        (try dsimp only); (try k_fold)
        generalize hnt : imgs (mOf (turnedOf [a0.fmod 16, a1.fmod 16, a2.fmod 16, a3.fmod 16] 0) (turnedOf [a0.fmod 16, a1.fmod 16, a2.fmod 16, a3.fmod 16] 1) (turnedOf [a0.fmod 16, a1.fmod 16, a2.fmod 16, a3.fmod 16] 2) (turnedOf [a0.fmod 16, a1.fmod 16, a2.fmod 16, a3.fmod 16] 3)) 4 = nt at hZ
        have hntl : nt.length = 16 := by rw [← hnt]; exact imgs_len4 _
        (repeat' (first | (unfold Hold; first | ((with_reducible show wpAny _ _ (call (Value.ref _) _ _) _ _ _); first | (with_reducible (refine halt ?_)) | (refine halt ?_)) | ((with_reducible show wpAny _ _ (pyIter _) (CompGo _ _ _ _ _ _ _ _ _ _ _) _ _); first | (with_reducible (refine halt ?_)) | (refine halt ?_)) | ((with_reducible show wpAny _ _ (eval (PySem.Expr.ListComp _ [⟨_, PySem.Expr.Subscript _ _ _, _, _⟩] _ _) _) _ _ _); first | (with_reducible (k_dflt (refine LCg.ListComp_U (F₀ := by k_asm) (by with_unfolding_all rfl) (by decide) (by rfl) (by decide) (by rfl) ?_))) | (k_dflt (refine LCg.ListComp_U (F₀ := by k_asm) (by with_unfolding_all rfl) (by decide) (by rfl) (by decide) (by rfl) ?_))) | ((with_reducible show wpAny _ _ (subscriptTail _ _ (Value.ref _) (Value.ref _)) _ _ _); first | (with_reducible (k_dflt (refine' slice4 ?zF ?zN ?zl ?zi ?z0 ?zp ?zq ?zr ?_ ?zs ?zt ?zz; (case zp => exact IsPart.int _ _); (case zq => exact IsPart.int _ _); (case zr => exact IsPart.int _ _); (case zF => k_asm); (case zN => k_asm); (case zl => kmk_list); (case zi => l_ints); (case z0 => omega); (case zs => with_unfolding_all rfl); (case zt => kmk_pure); (case zz => kmk_size)); intro D' ws' ms' h' F' N' l1 hI' hC'; (try k_lt l1))) | (k_dflt (refine' slice4 ?zF ?zN ?zl ?zi ?z0 ?zp ?zq ?zr ?_ ?zs ?zt ?zz; (case zp => exact IsPart.int _ _); (case zq => exact IsPart.int _ _); (case zr => exact IsPart.int _ _); (case zF => k_asm); (case zN => k_asm); (case zl => kmk_list); (case zi => l_ints); (case z0 => omega); (case zs => with_unfolding_all rfl); (case zt => kmk_pure); (case zz => kmk_size)); intro D' ws' ms' h' F' N' l1 hI' hC'; (try k_lt l1))) | (have hz9 : NoHalt := ⟨⟩; walk1; all_goals (try clear hz9))) | (k_unfold; (try dsimp only)) | (k_end; wrow_close) | walk1 | (dsimp only; walk1) | (leave1; walk_say "STEP leave1"; try dsimp only) | fail "no step"))
        unfold Halt
        (with_reducible rename Fr _ _ _ _ => FF)
        (with_reducible rename News _ _ _ _ => NN)
        refine' SpecK.useR (ps := [(Z, listOf lZ.toArray kZ)]) (Ret := fun _ r => ∃ t, r = .int (linesOf nt : Nat) t) (law_lines_spec _ Z lZ nt kZ hZ hntl) ?k1 FF ?k3 NN ?k5 ?kK ?kd ?ku ?h1 ?_
        case k1 => k_asm
        case k3 => k_asm
        case k5 => k_asm
        case kK => exact rfl
        case kd => exact Nat.le_of_ble_eq_true rfl
        case ku => exact Nat.le_of_ble_eq_true rfl
        case h1 => exact fun p hp => by rw [List.mem_singleton.mp hp]; exact .head _
        intro r9 h9 tk8 F9 N9 hle8 R9
        obtain ⟨tm, rfl⟩ := R9
        clear FF NN
        obtain ⟨hA, hB1, hB0⟩ := law_math (fmod16 a0) (fmod16 a1) (fmod16 a2) (fmod16 a3) hns hnt
        rw [hA]
        (try dsimp only); (try k_fold)
        (repeat' (first | (unfold Hold; first | ((with_reducible show wpAny _ _ (call (Value.ref _) _ _) _ _ _); first | (with_reducible (refine halt ?_)) | (refine halt ?_)) | ((with_reducible show wpAny _ _ (pyIter _) (CompGo _ _ _ _ _ _ _ _ _ _ _) _ _); first | (with_reducible (refine halt ?_)) | (refine halt ?_)) | ((with_reducible show wpAny _ _ (eval (PySem.Expr.ListComp _ [⟨_, PySem.Expr.Subscript _ _ _, _, _⟩] _ _) _) _ _ _); first | (with_reducible (k_dflt (refine LCg.ListComp_U (F₀ := by k_asm) (by with_unfolding_all rfl) (by decide) (by rfl) (by decide) (by rfl) ?_))) | (k_dflt (refine LCg.ListComp_U (F₀ := by k_asm) (by with_unfolding_all rfl) (by decide) (by rfl) (by decide) (by rfl) ?_))) | ((with_reducible show wpAny _ _ (subscriptTail _ _ (Value.ref _) (Value.ref _)) _ _ _); first | (with_reducible (k_dflt (refine' slice4 ?zF ?zN ?zl ?zi ?z0 ?zp ?zq ?zr ?_ ?zs ?zt ?zz; (case zp => exact IsPart.int _ _); (case zq => exact IsPart.int _ _); (case zr => exact IsPart.int _ _); (case zF => k_asm); (case zN => k_asm); (case zl => kmk_list); (case zi => l_ints); (case z0 => omega); (case zs => with_unfolding_all rfl); (case zt => kmk_pure); (case zz => kmk_size)); intro D' ws' ms' h' F' N' l1 hI' hC'; (try k_lt l1))) | (k_dflt (refine' slice4 ?zF ?zN ?zl ?zi ?z0 ?zp ?zq ?zr ?_ ?zs ?zt ?zz; (case zp => exact IsPart.int _ _); (case zq => exact IsPart.int _ _); (case zr => exact IsPart.int _ _); (case zF => k_asm); (case zN => k_asm); (case zl => kmk_list); (case zi => l_ints); (case z0 => omega); (case zs => with_unfolding_all rfl); (case zt => kmk_pure); (case zz => kmk_size)); intro D' ws' ms' h' F' N' l1 hI' hC'; (try k_lt l1))) | (have hz9 : NoHalt := ⟨⟩; walk1; all_goals (try clear hz9))) | (k_unfold; (try dsimp only)) | (k_end; wrow_close) | walk1 | (dsimp only; walk1) | (leave1; walk_say "STEP leave1"; try dsimp only) | fail "no step"))
        unfold Halt
        (with_reducible rename Fr _ _ _ _ => FF)
        (with_reducible rename News _ _ _ _ => NN)
        have htk8 : tk9 ≤ tk8 := by
          dsimp only at hle5 hle6 hle7 hle8 hleW
          first | exact Nat.le_trans (by assumption : tk9 ≤ tk4) (Nat.le_trans (Nat.le_of_succ_le hle5) (Nat.le_trans hleW (Nat.le_trans hle6 (Nat.le_trans hle7 hle8)))) | omega
        refine' SpecK.useR (ps := [(D3, LCg.lst ys3)]) (Ret := fun _ r => ∃ tc, r = .int (((insL ns).countP (· == 1) : Nat) : Int) tc) (count_vals_spec _ D3 ys3 (insL ns) 1 _ hlen3 ?z1 ?z2 (insL_le ns) (hV4 _ htk8)) ?k1 FF ?k3 NN ?k5 ?kK ?kd ?ku ?h1 ?_
        case z1 => rw [insL_len]; decide
        case z2 => rw [insL_len]; decide
        case k1 => k_asm
        case k3 => k_asm
        case k5 => k_asm
        case kK => exact rfl
        case kd => exact Nat.le_of_ble_eq_true rfl
        case ku => exact Nat.le_of_ble_eq_true rfl
        case h1 => exact fun p hp => by rw [List.mem_singleton.mp hp]; exact .tail _ (.tail _ (.tail _ (.head _)))
        intro r9 h9 tkA F9 N9 hleA R9
        obtain ⟨tn, rfl⟩ := R9
        clear FF NN
        rw [hB1]
        (try dsimp only); (try k_fold)
        (repeat' (first | (unfold Hold; first | ((with_reducible show wpAny _ _ (call (Value.ref _) _ _) _ _ _); first | (with_reducible (refine halt ?_)) | (refine halt ?_)) | ((with_reducible show wpAny _ _ (pyIter _) (CompGo _ _ _ _ _ _ _ _ _ _ _) _ _); first | (with_reducible (refine halt ?_)) | (refine halt ?_)) | ((with_reducible show wpAny _ _ (eval (PySem.Expr.ListComp _ [⟨_, PySem.Expr.Subscript _ _ _, _, _⟩] _ _) _) _ _ _); first | (with_reducible (k_dflt (refine LCg.ListComp_U (F₀ := by k_asm) (by with_unfolding_all rfl) (by decide) (by rfl) (by decide) (by rfl) ?_))) | (k_dflt (refine LCg.ListComp_U (F₀ := by k_asm) (by with_unfolding_all rfl) (by decide) (by rfl) (by decide) (by rfl) ?_))) | ((with_reducible show wpAny _ _ (subscriptTail _ _ (Value.ref _) (Value.ref _)) _ _ _); first | (with_reducible (k_dflt (refine' slice4 ?zF ?zN ?zl ?zi ?z0 ?zp ?zq ?zr ?_ ?zs ?zt ?zz; (case zp => exact IsPart.int _ _); (case zq => exact IsPart.int _ _); (case zr => exact IsPart.int _ _); (case zF => k_asm); (case zN => k_asm); (case zl => kmk_list); (case zi => l_ints); (case z0 => omega); (case zs => with_unfolding_all rfl); (case zt => kmk_pure); (case zz => kmk_size)); intro D' ws' ms' h' F' N' l1 hI' hC'; (try k_lt l1))) | (k_dflt (refine' slice4 ?zF ?zN ?zl ?zi ?z0 ?zp ?zq ?zr ?_ ?zs ?zt ?zz; (case zp => exact IsPart.int _ _); (case zq => exact IsPart.int _ _); (case zr => exact IsPart.int _ _); (case zF => k_asm); (case zN => k_asm); (case zl => kmk_list); (case zi => l_ints); (case z0 => omega); (case zs => with_unfolding_all rfl); (case zt => kmk_pure); (case zz => kmk_size)); intro D' ws' ms' h' F' N' l1 hI' hC'; (try k_lt l1))) | (have hz9 : NoHalt := ⟨⟩; walk1; all_goals (try clear hz9))) | (k_unfold; (try dsimp only)) | (k_end; wrow_close) | walk1 | (dsimp only; walk1) | (leave1; walk_say "STEP leave1"; try dsimp only) | fail "no step"))
        unfold Halt
        (with_reducible rename Fr _ _ _ _ => FF)
        (with_reducible rename News _ _ _ _ => NN)
        have htkA : tk9 ≤ tkA := by dsimp only at hleA; exact Nat.le_trans htk8 (Nat.le_of_succ_le hleA)
        refine' SpecK.useR (ps := [(D3, LCg.lst ys3)]) (Ret := fun _ r => ∃ tc, r = .int (((insL ns).countP (· == 0) : Nat) : Int) tc) (count_vals_spec _ D3 ys3 (insL ns) 0 _ hlen3 ?z1 ?z2 (insL_le ns) (hV4 _ htkA)) ?k1 FF ?k3 NN ?k5 ?kK ?kd ?ku ?h1 ?_
        case z1 => rw [insL_len]; decide
        case z2 => rw [insL_len]; decide
        case k1 => k_asm
        case k3 => k_asm
        case k5 => k_asm
        case kK => exact rfl
        case kd => exact Nat.le_of_ble_eq_true rfl
        case ku => exact Nat.le_of_ble_eq_true rfl
        case h1 => exact fun p hp => by rw [List.mem_singleton.mp hp]; exact .tail _ (.tail _ (.tail _ (.head _)))
        intro r9 h9 tkB F9 N9 hleB R9
        obtain ⟨to, rfl⟩ := R9
        clear FF NN
        rw [hB0]
        (try dsimp only); (try k_fold)
        (repeat' (first | (unfold Hold; first | ((with_reducible show wpAny _ _ (call (Value.ref _) _ _) _ _ _); first | (with_reducible (refine halt ?_)) | (refine halt ?_)) | ((with_reducible show wpAny _ _ (pyIter _) (CompGo _ _ _ _ _ _ _ _ _ _ _) _ _); first | (with_reducible (refine halt ?_)) | (refine halt ?_)) | ((with_reducible show wpAny _ _ (eval (PySem.Expr.ListComp _ [⟨_, PySem.Expr.Subscript _ _ _, _, _⟩] _ _) _) _ _ _); first | (with_reducible (k_dflt (refine LCg.ListComp_U (F₀ := by k_asm) (by with_unfolding_all rfl) (by decide) (by rfl) (by decide) (by rfl) ?_))) | (k_dflt (refine LCg.ListComp_U (F₀ := by k_asm) (by with_unfolding_all rfl) (by decide) (by rfl) (by decide) (by rfl) ?_))) | ((with_reducible show wpAny _ _ (subscriptTail _ _ (Value.ref _) (Value.ref _)) _ _ _); first | (with_reducible (k_dflt (refine' slice4 ?zF ?zN ?zl ?zi ?z0 ?zp ?zq ?zr ?_ ?zs ?zt ?zz; (case zp => exact IsPart.int _ _); (case zq => exact IsPart.int _ _); (case zr => exact IsPart.int _ _); (case zF => k_asm); (case zN => k_asm); (case zl => kmk_list); (case zi => l_ints); (case z0 => omega); (case zs => with_unfolding_all rfl); (case zt => kmk_pure); (case zz => kmk_size)); intro D' ws' ms' h' F' N' l1 hI' hC'; (try k_lt l1))) | (k_dflt (refine' slice4 ?zF ?zN ?zl ?zi ?z0 ?zp ?zq ?zr ?_ ?zs ?zt ?zz; (case zp => exact IsPart.int _ _); (case zq => exact IsPart.int _ _); (case zr => exact IsPart.int _ _); (case zF => k_asm); (case zN => k_asm); (case zl => kmk_list); (case zi => l_ints); (case z0 => omega); (case zs => with_unfolding_all rfl); (case zt => kmk_pure); (case zz => kmk_size)); intro D' ws' ms' h' F' N' l1 hI' hC'; (try k_lt l1))) | (have hz9 : NoHalt := ⟨⟩; walk1; all_goals (try clear hz9))) | (k_unfold; (try dsimp only)) | (k_end; wrow_close) | walk1 | (dsimp only; walk1) | (leave1; walk_say "STEP leave1"; try dsimp only) | fail "no step"))⟩
end
end Mine
theorem PySem.Challenge.cw_wj0050_01_holds : PySem.Challenge.rw_wj0050_01.Holds :=
  Mine.law_holds
